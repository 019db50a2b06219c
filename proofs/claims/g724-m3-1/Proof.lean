import JvmDerived
import JvmDerived.Pilot.@@N@@Statement
import JvmDerived.Pilot.@@N@@Code
set_option linter.unusedVariables false
set_option linter.unusedSimpArgs false
/- laws to paste: Road.backV, Road.lenW, Road.codOf (cut by pick.py; bodies as the Statement names them) -/
namespace Jvm.Pilot.@@N@@
namespace StrChars
open Jvm Sem ClassFile Op Lib Jvm.Stand Jvm.Free.XT Jvm.Free.ALB Jvm.Free.JM Jvm.Free
open Jvm.Lib.Cold (StaticIs)
/-- a char array whose places are chars -/
def Ch (a : Addr) (A : Cell) (U : State) : Prop := Arr .char a A U ∧ Typed .char A
theorem Ch.mv {a : Addr} {A : Cell} {U U' : State} (h : Ch a A U) (hal : U.vm.Alike U'.vm) (hh : U'.heap = U.heap) : Ch a A U' := ⟨h.1.mv hal hh, h.2⟩
theorem Ch.keep {a : Addr} {A : Cell} {U U' : State} (h : Ch a A U) (hal : U.vm.Alike U'.vm) (hk : U'.heap[a]? = some A) : Ch a A U' := ⟨h.1.keep hal hk, h.2⟩
/-- what place i of a char[]'s cell holds -/
def cv (A : Cell) (i : Nat) : Int32 := match A.slots[i]? with | some (.int x) => x | _ => 0
theorem Ch.get {a : Addr} {A : Cell} {U : State} (h : Ch a A U) {i : Nat} (hi : i < A.slots.size) : A.slots[i]? = some (.int (cv A i)) := by
  have e := Array.getElem?_eq_getElem hi
  have f := h.2 i _ e
  unfold cv; rw [e]
  generalize A.slots[i] = v at f
  cases v <;> simp [fits] at f ⊢
/-- the byte that i2b leaves of a char -/
def lo8 (x : Int32) : Int32 := x.toInt8.toInt32
theorem fits_lo8 (y : Int32) : fits .byte (.int (lo8 y)) = true := by
  have h1 := y.toInt8.le_toInt
  have h2 := y.toInt8.toInt_lt
  simp only [lo8, fits, Bool.and_eq_true, decide_eq_true_eq, Int32.le_iff_toInt_le, Int8.toInt_toInt32, show (-128 : Int32).toInt = -128 from by decide, show (127 : Int32).toInt = 127 from by decide]
  omega
/-- A' is A but that each place j of lo .. hi - 1 holds f j -/
def Laid (A A' : Cell) (lo hi : Nat) (f : Nat → Value) : Prop := A'.cls = A.cls ∧ A'.vm = A.vm ∧ A'.slots.size = A.slots.size ∧ ∀ i, A'.slots[i]? = if lo ≤ i ∧ i < hi then some (f i) else A.slots[i]?
theorem Laid.zero (A : Cell) (lo : Nat) (f : Nat → Value) : Laid A A lo (lo + 0) f := ⟨rfl, rfl, rfl, fun i => by rw [if_neg (by omega)]⟩
theorem Laid.step {A Ak : Cell} {lo k : Nat} {f : Nat → Value} {v : Value} (h : Laid A Ak lo k f) (hlo : lo ≤ k) (hk : k < Ak.slots.size) (hv : v = f k) : Laid A (Ak.setSlot k v) lo (k + 1) f := by
  refine ⟨h.1, h.2.1, by simpa [Cell.setSlot] using h.2.2.1, fun i => ?_⟩
  by_cases e : k = i
  · subst e; rw [Cell.slots_setSlot_self v hk, if_pos (by omega), hv]
  · rw [Cell.slots_setSlot_ne v e, h.2.2.2 i]
    by_cases q : lo ≤ i ∧ i < k
    · rw [if_pos q, if_pos (by omega)]
    · rw [if_neg q, if_neg (by omega)]
def U16 : String := "java/lang/StringUTF16"
namespace Cmp5
def yN : MethodName := ⟨"java/lang/StringUTF16", "compress", "([CI[BII)I"⟩
abbrev yB : ByteArray := jdk_52_method_21_code
theorem d0 : decode yB 0 = .ok (.iconst 0, 1) := by decide +kernel
theorem d1 : decode yB 1 = .ok (.istore 5, 2) := by decide +kernel
theorem d3 : decode yB 3 = .ok (.iload 5, 2) := by decide +kernel
theorem d5 : decode yB 5 = .ok (.iload 4, 2) := by decide +kernel
theorem d7 : decode yB 7 = .ok (.if_icmp (.ge) 37, 3) := by decide +kernel
theorem d10 : decode yB 10 = .ok (.aload_n 0, 1) := by decide +kernel
theorem d11 : decode yB 11 = .ok (.iload_n 1, 1) := by decide +kernel
theorem d12 : decode yB 12 = .ok (.caload, 1) := by decide +kernel
theorem d13 : decode yB 13 = .ok (.istore 6, 2) := by decide +kernel
theorem d15 : decode yB 15 = .ok (.iload 6, 2) := by decide +kernel
theorem d17 : decode yB 17 = .ok (.sipush 255, 3) := by decide +kernel
theorem d20 : decode yB 20 = .ok (.if_icmp (.le) 6, 3) := by decide +kernel
theorem d26 : decode yB 26 = .ok (.aload_n 2, 1) := by decide +kernel
theorem d27 : decode yB 27 = .ok (.iload_n 3, 1) := by decide +kernel
theorem d28 : decode yB 28 = .ok (.iload 6, 2) := by decide +kernel
theorem d30 : decode yB 30 = .ok (.i2b, 1) := by decide +kernel
theorem d31 : decode yB 31 = .ok (.bastore, 1) := by decide +kernel
theorem d32 : decode yB 32 = .ok (.iinc 1 1, 3) := by decide +kernel
theorem d35 : decode yB 35 = .ok (.iinc 3 1, 3) := by decide +kernel
theorem d38 : decode yB 38 = .ok (.iinc 5 1, 3) := by decide +kernel
theorem d41 : decode yB 41 = .ok (.goto (-38), 3) := by decide +kernel
theorem d44 : decode yB 44 = .ok (.iload 4, 2) := by decide +kernel
theorem d46 : decode yB 46 = .ok (.ireturn, 1) := by decide +kernel
def site : List Cond := []
def tab : Cond := tabOf yN yB 7 (some .int) site
def P (b : Addr) (A : Cell) (d : Addr) (B : Cell) (o q len : Nat) (args : Array Value) (s : State) : Prop := args = #[.ref b, .int (Int32.ofNat o), .ref d, .int (Int32.ofNat q), .int (Int32.ofNat len)] ∧ Ch b A s ∧ Arr .byte d B s ∧ b ≠ d ∧ o + len ≤ A.slots.size ∧ q + len ≤ B.slots.size ∧ ∀ i, i < len → ¬ 255 < cv A (o + i)
def E (b : Addr) (A : Cell) (d : Addr) (B : Cell) (o q len : Nat) (r : Option Value) (s u : State) : Prop := r = some (.int (Int32.ofNat len)) ∧ ∃ B', Put d B' s u ∧ Laid B B' q (q + len) (fun j => Value.int (lo8 (cv A (o + (j - q)))))
/-- no char of the range above 255: len; the places written hold each char's low byte -/
theorem law (l : Launch) (b : Addr) (A : Cell) (d : Addr) (B : Cell) (o q len : Nat) : Law l yN 5 5 0 0 yB 7 (some .int) site (P b A d B o q len) (E b A d B o q len) (copyLocs d q len) 0 0 := by
  refine Law.of_walk (plainFor_of_name (by decide +kernel)) (by decide +kernel) (by decide +kernel) (by decide) (fun _ _ h => by rw [h.1]; rfl) (fun _ U U' hal hh h => ⟨h.1, h.2.1.mv hal hh, h.2.2.1.mv hal hh, h.2.2.2⟩) (fun r U U' V V' h1 hal h2 h => ⟨h.1, h.2.elim fun B' q => ⟨B', q.1.mv h1 h2, q.2⟩⟩) ?_
  intro p e s m args below meth c s₁ X0 hexec hbytes hml hret hlk hnm hown hh0 W hP
  obtain ⟨rfl, hA, hB, hne, l1, l2, hp⟩ := hP
  have c1 : Steps p.tables e below (s₁.setTop (entryFrame m #[.ref b, .int (Int32.ofNat o), .ref d, .int (Int32.ofNat q), .int (Int32.ofNat len)] 7)) (s₁.setTop (mkF m 0 #[.val (.ref b), .val (.int (Int32.ofNat o)), .val (.ref d), .val (.int (Int32.ofNat q)), .val (.int (Int32.ofNat len)), .unset, .unset] [])) := entry rfl
  have hA0 := hA.1.mv X0.warmed.alike hh0
  have hB0 := hB.mv X0.warmed.alike hh0
  have a31 := hA.1.2.2.2
  have c2 : Steps p.tables e below (s₁.setTop (entryFrame m #[.ref b, .int (Int32.ofNat o), .ref d, .int (Int32.ofNat q), .int (Int32.ofNat len)] 7)) (s₁.setTop (mkF m 3 #[.val (.ref b), .val (.int (Int32.ofNat o)), .val (.ref d), .val (.int (Int32.ofNat q)), .val (.int (Int32.ofNat len)), .val (.int 0), .unset] [])) := c1.trans (by
    refine iconstV X0.here hexec rfl 0 (hb hbytes d0) (by decide) ?_
    refine XS.istore X0.here hexec rfl (hb hbytes d1) rfl rfl ?_
    exact Steps.refl _)
  have loop : ∀ (r i : Nat), i + r = len → ∀ (z : Slot), (z = .unset ∨ ∃ w, z = .val w ∧ w.category = 1) → ∀ (Tl : State) (Bk : Cell), Stand p l e { frames := 0, locals := 0, cells := 0, slots := 0 } s m #[.ref b, .int (Int32.ofNat o), .ref d, .int (Int32.ofNat q), .int (Int32.ofNat len)] below meth c Tl ([] ++ copyLocs d q i) 0 0 → Put d Bk s₁ Tl → Laid B Bk q (q + i) (fun j => Value.int (lo8 (cv A (o + (j - q))))) →
      Steps p.tables e below (s₁.setTop (entryFrame m #[.ref b, .int (Int32.ofNat o), .ref d, .int (Int32.ofNat q), .int (Int32.ofNat len)] 7)) (Tl.setTop (mkF m 3 #[.val (.ref b), .val (.int (Int32.ofNat (o + i))), .val (.ref d), .val (.int (Int32.ofNat (q + i))), .val (.int (Int32.ofNat len)), .val (.int (Int32.ofNat i)), z] [])) → ∃ (T' : State) (B' : Cell) (z' : Slot), Stand p l e { frames := 0, locals := 0, cells := 0, slots := 0 } s m #[.ref b, .int (Int32.ofNat o), .ref d, .int (Int32.ofNat q), .int (Int32.ofNat len)] below meth c T' ([] ++ copyLocs d q len) 0 0 ∧ Put d B' s₁ T' ∧ Laid B B' q (q + len) (fun j => Value.int (lo8 (cv A (o + (j - q))))) ∧
      Steps p.tables e below (s₁.setTop (entryFrame m #[.ref b, .int (Int32.ofNat o), .ref d, .int (Int32.ofNat q), .int (Int32.ofNat len)] 7)) (T'.setTop (mkF m 3 #[.val (.ref b), .val (.int (Int32.ofNat (o + len))), .val (.ref d), .val (.int (Int32.ofNat (q + len))), .val (.int (Int32.ofNat len)), .val (.int (Int32.ofNat len)), z'] [])) := by
    intro r
    induction r with
    | zero =>
      intro i hi z hz Tl Bk Xl pl fl cl
      have hil : i = len := by omega
      rw [hil] at Xl fl cl
      exact ⟨Tl, Bk, z, Xl, pl, fl, cl⟩
    | succ r ih =>
      intro i hi z hz Tl Bk Xl pl fl cl
      have all := X0.warmed.alike.symm.trans Xl.warmed.alike
      have hAl := hA0.keep all (pl.other hne hA0.1)
      have hBk := hB0.like all pl.1 fl.1 fl.2.1 fl.2.2.1
      have hlt : q + i < Bk.slots.size := by rw [fl.2.2.1]; omega
      have c3 : Steps p.tables e below (s₁.setTop (entryFrame m #[.ref b, .int (Int32.ofNat o), .ref d, .int (Int32.ofNat q), .int (Int32.ofNat len)] 7)) (Tl.setTop (mkF m 12 #[.val (.ref b), .val (.int (Int32.ofNat (o + i))), .val (.ref d), .val (.int (Int32.ofNat (q + i))), .val (.int (Int32.ofNat len)), .val (.int (Int32.ofNat i)), z] [.int (Int32.ofNat (o + i)), .ref b])) := cl.trans (by
        refine XS.iload Xl.here hexec rfl (hb hbytes d3) rfl ?_
        refine XS.iload Xl.here hexec rfl (hb hbytes d5) rfl ?_
        refine XS.icmpNo Xl.here hexec rfl (hb hbytes d7) rfl (ii_ge_f (lt32 (by omega) (by omega))) ?_
        refine XS.aloadN Xl.here hexec rfl (hb hbytes d10) rfl rfl ?_
        refine XS.iloadN Xl.here hexec rfl (hb hbytes d11) rfl ?_
        exact Steps.refl _)
      have c4 : Steps p.tables e below (s₁.setTop (entryFrame m #[.ref b, .int (Int32.ofNat o), .ref d, .int (Int32.ofNat q), .int (Int32.ofNat len)] 7)) (Tl.setTop (mkF m 13 #[.val (.ref b), .val (.int (Int32.ofNat (o + i))), .val (.ref d), .val (.int (Int32.ofNat (q + i))), .val (.int (Int32.ofNat len)), .val (.int (Int32.ofNat i)), z] [.int (cv A (o + i))])) := c3.trans (by
        refine Xl.aget hexec hAl rfl (hA.get (i := o + i) (by omega)) rfl rfl (hb hbytes d12) ?_
        exact Steps.refl _)
      have c5 : Steps p.tables e below (s₁.setTop (entryFrame m #[.ref b, .int (Int32.ofNat o), .ref d, .int (Int32.ofNat q), .int (Int32.ofNat len)] 7)) (Tl.setTop (mkF m 15 #[.val (.ref b), .val (.int (Int32.ofNat (o + i))), .val (.ref d), .val (.int (Int32.ofNat (q + i))), .val (.int (Int32.ofNat len)), .val (.int (Int32.ofNat i)), .val (.int (cv A (o + i)))] [])) := c4.trans (by
        refine XS.istoreS Xl.here hexec rfl (hb hbytes d13) rfl rfl hz ?_
        exact Steps.refl _)
      have c6 : Steps p.tables e below (s₁.setTop (entryFrame m #[.ref b, .int (Int32.ofNat o), .ref d, .int (Int32.ofNat q), .int (Int32.ofNat len)] 7)) (Tl.setTop (mkF m 31 #[.val (.ref b), .val (.int (Int32.ofNat (o + i))), .val (.ref d), .val (.int (Int32.ofNat (q + i))), .val (.int (Int32.ofNat len)), .val (.int (Int32.ofNat i)), .val (.int (cv A (o + i)))] [.int (lo8 (cv A (o + i))), .int (Int32.ofNat (q + i)), .ref d])) := c5.trans (by
        refine XS.iload Xl.here hexec rfl (hb hbytes d15) rfl ?_
        refine sipushV Xl.here hexec rfl 255 (hb hbytes d17) (by decide) ?_
        refine XS.icmpYes Xl.here hexec rfl (pc0 := 20) rfl (hb hbytes d20) rfl (ii_le_t (hp i (by omega))) (by decide) rfl ?_
        refine XS.aloadN Xl.here hexec rfl (hb hbytes d26) rfl rfl ?_
        refine XS.iloadN Xl.here hexec rfl (hb hbytes d27) rfl ?_
        refine XS.iload Xl.here hexec rfl (hb hbytes d28) rfl ?_
        refine i2b Xl.here hexec rfl (hb hbytes d30) rfl ?_
        exact Steps.refl _)
      obtain ⟨T7, X7, p7, st7⟩ := Xl.aput hexec hBk rfl hlt rfl (fits_lo8 (cv A (o + i))) (g := (mkF m 31 #[.val (.ref b), .val (.int (Int32.ofNat (o + i))), .val (.ref d), .val (.int (Int32.ofNat (q + i))), .val (.int (Int32.ofNat len)), .val (.int (Int32.ofNat i)), .val (.int (cv A (o + i)))] [.int (lo8 (cv A (o + i))), .int (Int32.ofNat (q + i)), .ref d])) rfl (rest := []) rfl (hb hbytes d31)
      have c8 : Steps p.tables e below (s₁.setTop (entryFrame m #[.ref b, .int (Int32.ofNat o), .ref d, .int (Int32.ofNat q), .int (Int32.ofNat len)] 7)) (T7.setTop (mkF m 32 #[.val (.ref b), .val (.int (Int32.ofNat (o + i))), .val (.ref d), .val (.int (Int32.ofNat (q + i))), .val (.int (Int32.ofNat len)), .val (.int (Int32.ofNat i)), .val (.int (cv A (o + i)))] [])) := c6.trans (st7 _ (Steps.refl _))
      have c9 : Steps p.tables e below (s₁.setTop (entryFrame m #[.ref b, .int (Int32.ofNat o), .ref d, .int (Int32.ofNat q), .int (Int32.ofNat len)] 7)) (T7.setTop (mkF m 3 #[.val (.ref b), .val (.int (Int32.ofNat (o + i) + 1)), .val (.ref d), .val (.int (Int32.ofNat (q + i) + 1)), .val (.int (Int32.ofNat len)), .val (.int (Int32.ofNat i + 1)), .val (.int (cv A (o + i)))] [])) := c8.trans (by
        refine iincV X7.here hexec rfl 1 (hb hbytes d32) (by decide) rfl rfl ?_
        refine iincV X7.here hexec rfl 1 (hb hbytes d35) (by decide) rfl rfl ?_
        refine iincV X7.here hexec rfl 1 (hb hbytes d38) (by decide) rfl rfl ?_
        refine XS.goto X7.here hexec rfl (pc0 := 41) rfl (hb hbytes d41) (by decide) rfl ?_
        exact Steps.refl _)
      have c10 : Steps p.tables e below (s₁.setTop (entryFrame m #[.ref b, .int (Int32.ofNat o), .ref d, .int (Int32.ofNat q), .int (Int32.ofNat len)] 7)) (T7.setTop (mkF m 3 #[.val (.ref b), .val (.int (Int32.ofNat (o + (i + 1)))), .val (.ref d), .val (.int (Int32.ofNat (q + (i + 1)))), .val (.int (Int32.ofNat len)), .val (.int (Int32.ofNat (i + 1))), .val (.int (cv A (o + i)))] [])) := by
        have := c9
        rw [succ32, succ32, succ32] at this
        exact this
      exact ih (i + 1) (by omega) _ (Or.inr ⟨_, rfl, rfl⟩) T7 _ (by rw [copyLocs_step, ← List.append_assoc]; exact X7) (pl.trans p7) (fl.step (by omega) hlt (by simp)) c10
  obtain ⟨T9, B9, z9, X9, p9, f9, g9⟩ := loop len 0 (by omega) .unset (Or.inl rfl) s₁ B (by simpa [copyLocs] using X0) ⟨hB0.1, fun _ _ => rfl, rfl⟩ (Laid.zero _ _ _) c2
  have c11 : Steps p.tables e below (s₁.setTop (entryFrame m #[.ref b, .int (Int32.ofNat o), .ref d, .int (Int32.ofNat q), .int (Int32.ofNat len)] 7)) (T9.setTop (mkF m 46 #[.val (.ref b), .val (.int (Int32.ofNat (o + len))), .val (.ref d), .val (.int (Int32.ofNat (q + len))), .val (.int (Int32.ofNat len)), .val (.int (Int32.ofNat len)), z9] [.int (Int32.ofNat len)])) := g9.trans (by
    refine XS.iload X9.here hexec rfl (hb hbytes d3) rfl ?_
    refine XS.iload X9.here hexec rfl (hb hbytes d5) rfl ?_
    refine XS.icmpYes X9.here hexec rfl (pc0 := 7) rfl (hb hbytes d7) rfl (ii_ge_t (nlt32 (by omega) (Nat.le_refl _))) (by decide) rfl ?_
    refine XS.iload X9.here hexec rfl (hb hbytes d44) rfl ?_
    exact Steps.refl _)
  exact ⟨T9, some (.int (Int32.ofNat len)), _, _, _, X9, by simp, rfl, rfl, (fun h => by cases h), ⟨rfl, B9, p9.from hh0, f9⟩, fun fs hl => c11.trans (X9.ireturnOut hexec hret rfl (Or.inl rfl) (hb hbytes d46) hl)⟩
end Cmp5
namespace Cmp3
def yN : MethodName := ⟨"java/lang/StringUTF16", "compress", "([CII)[B"⟩
abbrev yB : ByteArray := jdk_52_method_16_code
theorem d0 : decode yB 0 = .ok (.iload_n 2, 1) := by decide +kernel
theorem d1 : decode yB 1 = .ok (.newarray .byte, 2) := by decide +kernel
theorem d3 : decode yB 3 = .ok (.astore_n 3, 1) := by decide +kernel
theorem d4 : decode yB 4 = .ok (.aload_n 0, 1) := by decide +kernel
theorem d5 : decode yB 5 = .ok (.iload_n 1, 1) := by decide +kernel
theorem d6 : decode yB 6 = .ok (.aload_n 3, 1) := by decide +kernel
theorem d7 : decode yB 7 = .ok (.iconst 0, 1) := by decide +kernel
theorem d8 : decode yB 8 = .ok (.iload_n 2, 1) := by decide +kernel
theorem d9 : decode yB 9 = .ok (.invokestatic 115, 3) := by decide +kernel
theorem d12 : decode yB 12 = .ok (.istore 4, 2) := by decide +kernel
theorem d14 : decode yB 14 = .ok (.iload 4, 2) := by decide +kernel
theorem d16 : decode yB 16 = .ok (.iload_n 2, 1) := by decide +kernel
theorem d17 : decode yB 17 = .ok (.if_icmp (.eq) 40, 3) := by decide +kernel
theorem d57 : decode yB 57 = .ok (.aload_n 3, 1) := by decide +kernel
theorem d58 : decode yB 58 = .ok (.areturn, 1) := by decide +kernel
def site : List Cond := [.arrayClass .byte, Cmp5.tab] ++ staticW U16 115 Cmp5.yN
def tab : Cond := tabOf yN yB 6 (some (.array .byte)) site
def P (b : Addr) (A : Cell) (o len : Nat) (args : Array Value) (s : State) : Prop := args = #[.ref b, .int (Int32.ofNat o), .int (Int32.ofNat len)] ∧ Ch b A s ∧ o + len ≤ A.slots.size ∧ len ≤ 536870912 ∧ ∀ i, i < len → ¬ 255 < cv A (o + i)
def E (b : Addr) (A : Cell) (o len : Nat) (r : Option Value) (s u : State) : Prop := NewArr .byte "[B" len (fun j => .int (lo8 (cv A (o + j)))) r s u ∧ u.heap.size = s.heap.size + 1
/-- no char of the range above 255: a new byte[] of their low bytes -/
theorem law (l : Launch) (b : Addr) (A : Cell) (o len : Nat) : Law l yN 3 3 1 18 yB 6 (some (.array .byte)) site (P b A o len) (E b A o len) [] 1 len := by
  refine Law.of_walk (plainFor_of_name (by decide +kernel)) (by decide +kernel) (by decide +kernel) (by decide) (fun _ _ h => by rw [h.1]; rfl) (fun _ U U' hal hh h => ⟨h.1, h.2.1.mv hal hh, h.2.2⟩) (fun r U U' V V' h1 hal h2 h => ⟨NewArr.mv r U U' V V' h1 hal h2 h.1, by rw [h1, h2]; exact h.2⟩) ?_
  intro p e s m args below meth c s₁ X0 hexec hbytes hml hret hlk hnm hown hh0 W hP
  obtain ⟨rfl, hA, l1, l2, hp⟩ := hP
  have a31 := hA.1.2.2.2
  have c1 : Steps p.tables e below (s₁.setTop (entryFrame m #[.ref b, .int (Int32.ofNat o), .int (Int32.ofNat len)] 6)) (s₁.setTop (mkF m 0 #[.val (.ref b), .val (.int (Int32.ofNat o)), .val (.int (Int32.ofNat len)), .unset, .unset, .unset] [])) := entry rfl
  have c2 : Steps p.tables e below (s₁.setTop (entryFrame m #[.ref b, .int (Int32.ofNat o), .int (Int32.ofNat len)] 6)) (s₁.setTop (mkF m 1 #[.val (.ref b), .val (.int (Int32.ofNat o)), .val (.int (Int32.ofNat len)), .unset, .unset, .unset] [.int (Int32.ofNat len)])) := c1.trans (by
    refine XS.iloadN X0.here hexec rfl (hb hbytes d0) rfl ?_
    exact Steps.refl _)
  obtain ⟨T3, B3, X3, ba3, bs3, bv3, bh3, bf3, st3⟩ := X0.anew hexec (atype := .byte) (wk W (.arrayClass .byte)) rfl (by show len * 1 ≤ _; omega) (by omega) (g := (mkF m 1 #[.val (.ref b), .val (.int (Int32.ofNat o)), .val (.int (Int32.ofNat len)), .unset, .unset, .unset] [.int (Int32.ofNat len)])) rfl (hb hbytes d1) (rest := []) rfl (Nat.le_refl _) (by show 0 + len ≤ len; omega)
  rw [hh0] at ba3 st3
  have kp3 : XT.Kept s T3 := (XT.Kept.of_eq hh0).push bh3
  have hA3 := hA.keep X3.warmed.alike (kp3 _ _ hA.1.1)
  have hne : b ≠ s.heap.size := hA.1.ne
  have c4 : Steps p.tables e below (s₁.setTop (entryFrame m #[.ref b, .int (Int32.ofNat o), .int (Int32.ofNat len)] 6)) (T3.setTop (mkF m 3 #[.val (.ref b), .val (.int (Int32.ofNat o)), .val (.int (Int32.ofNat len)), .unset, .unset, .unset] [.ref s.heap.size])) := c2.trans (st3 _ (Steps.refl _))
  have c5 : Steps p.tables e below (s₁.setTop (entryFrame m #[.ref b, .int (Int32.ofNat o), .int (Int32.ofNat len)] 6)) (T3.setTop (mkF m 9 #[.val (.ref b), .val (.int (Int32.ofNat o)), .val (.int (Int32.ofNat len)), .val (.ref s.heap.size), .unset, .unset] [.int (Int32.ofNat len), .int 0, .ref s.heap.size, .int (Int32.ofNat o), .ref b])) := c4.trans (by
    refine XS.astoreN X3.here hexec rfl (hb hbytes d3) rfl rfl rfl ?_
    refine XS.aloadN X3.here hexec rfl (hb hbytes d4) rfl rfl ?_
    refine XS.iloadN X3.here hexec rfl (hb hbytes d5) rfl ?_
    refine XS.aloadN X3.here hexec rfl (hb hbytes d6) rfl rfl ?_
    refine iconstV X3.here hexec rfl 0 (hb hbytes d7) (by decide) ?_
    refine XS.iloadN X3.here hexec rfl (hb hbytes d8) rfl ?_
    exact Steps.refl _)
  obtain ⟨v6, T6, X6, E6, g6⟩ := X3.callS hexec (Cmp5.law l b A s.heap.size B3 o 0 len) hown (wks W (staticW U16 115 Cmp5.yN)) (wk W Cmp5.tab) (W := 0) (Nat.le_of_ble_eq_true rfl) (Nat.le_of_ble_eq_true rfl) (Nat.le_refl _) (by show 0 + len + 0 ≤ len; omega) (g := (mkF m 9 #[.val (.ref b), .val (.int (Int32.ofNat o)), .val (.int (Int32.ofNat len)), .val (.ref s.heap.size), .unset, .unset] [.int (Int32.ofNat len), .int (Int32.ofNat 0), .ref s.heap.size, .int (Int32.ofNat o), .ref b])) rfl (by rw [hml]; rfl) c5 (argsL := [.ref b, .int (Int32.ofNat o), .ref s.heap.size, .int (Int32.ofNat 0), .int (Int32.ofNat len)]) (rest := []) rfl rfl (by show 2 * 0 + 0 ≤ _; decide) (hb hbytes d9) (⟨rfl, hA3, ba3, hne, l1, by rw [bs3]; simp, hp⟩)
  obtain ⟨rfl, B6, p6, f6⟩ := E6
  have c7 : Steps p.tables e below (s₁.setTop (entryFrame m #[.ref b, .int (Int32.ofNat o), .int (Int32.ofNat len)] 6)) (T6.setTop (mkF m 12 #[.val (.ref b), .val (.int (Int32.ofNat o)), .val (.int (Int32.ofNat len)), .val (.ref s.heap.size), .unset, .unset] [.int (Int32.ofNat len)])) := g6
  have c8 : Steps p.tables e below (s₁.setTop (entryFrame m #[.ref b, .int (Int32.ofNat o), .int (Int32.ofNat len)] 6)) (T6.setTop (mkF m 58 #[.val (.ref b), .val (.int (Int32.ofNat o)), .val (.int (Int32.ofNat len)), .val (.ref s.heap.size), .val (.int (Int32.ofNat len)), .unset] [.ref s.heap.size])) := c7.trans (by
    refine XS.istore X6.here hexec rfl (hb hbytes d12) rfl rfl ?_
    refine XS.iload X6.here hexec rfl (hb hbytes d14) rfl ?_
    refine XS.iloadN X6.here hexec rfl (hb hbytes d16) rfl ?_
    refine XS.icmpYes X6.here hexec rfl (pc0 := 17) rfl (hb hbytes d17) rfl (ii_eq_t rfl) (by decide) rfl ?_
    refine XS.aloadN X6.here hexec rfl (hb hbytes d57) rfl rfl ?_
    exact Steps.refl _)
  have X8 := X6.wide (L' := []) (cells' := 1) (slots' := len) (fun x hx hlt => by
    simp only [List.nil_append, copyLocs, List.mem_map, List.mem_range] at hx
    obtain ⟨i, -, rfl⟩ := hx
    exact absurd hlt (Nat.lt_irrefl _)) (Nat.le_refl _) (by omega)
  exact ⟨T6, some (.ref s.heap.size), _, _, _, X8, rfl, rfl, rfl, (fun h => by cases h), ⟨⟨rfl, B6, ba3.like (X3.warmed.alike.symm.trans X6.warmed.alike) p6.1 f6.1 f6.2.1 f6.2.2.1, f6.2.1.trans bv3, by rw [X6.warmed.alike.findClass, f6.1]; exact bf3, by rw [f6.2.2.1, bs3]; simp, fun j hj => by rw [f6.2.2.2 j, if_pos (by omega)]; rfl, kp3.put p6 (Nat.le_refl _)⟩, by rw [p6.2.2, bh3, hh0]; simp⟩, fun fs hl => c8.trans (X8.areturnOut hexec rfl hret rfl (hb hbytes d58) hl)⟩
end Cmp3
namespace CodL
def yN : MethodName := ⟨"java/lang/StringUTF16", "coderFromArrayLen", "([BI)B"⟩
abbrev yB : ByteArray := jdk_52_method_15_code
theorem d0 : decode yB 0 = .ok (.iload_n 1, 1) := by decide +kernel
theorem d1 : decode yB 1 = .ok (.aload_n 0, 1) := by decide +kernel
theorem d2 : decode yB 2 = .ok (.arraylength, 1) := by decide +kernel
theorem d3 : decode yB 3 = .ok (.isub, 1) := by decide +kernel
theorem d4 : decode yB 4 = .ok (.bipush 31, 2) := by decide +kernel
theorem d6 : decode yB 6 = .ok (.iushr, 1) := by decide +kernel
theorem d7 : decode yB 7 = .ok (.i2b, 1) := by decide +kernel
theorem d8 : decode yB 8 = .ok (.ireturn, 1) := by decide +kernel
def site : List Cond := []
def tab : Cond := tabOf yN yB 2 (some .byte) site
def P (d : Addr) (B : Cell) (args : Array Value) (s : State) : Prop := args = #[.ref d, .int (Int32.ofNat B.slots.size)] ∧ Arr .byte d B s
def E (r : Option Value) (s u : State) : Prop := XT.PureE (some (.int 0)) r s u
/-- an array as long as the number of chars: LATIN1 -/
theorem law (l : Launch) (d : Addr) (B : Cell) : Law l yN 2 2 0 0 yB 2 (some .byte) site (P d B) E [] 0 0 := by
  refine Law.of_walk (plainFor_of_name (by decide +kernel)) (by decide +kernel) (by decide +kernel) (by decide) (fun _ _ h => by rw [h.1]; rfl) (fun _ U U' hal hh h => ⟨h.1, h.2.mv hal hh⟩) (fun r U U' V V' h1 hal h2 h => XT.PureE.mv r U U' V V' h1 hal h2 h) ?_
  intro p e s m args below meth c s₁ X0 hexec hbytes hml hret hlk hnm hown hh0 W hP
  obtain ⟨rfl, hB⟩ := hP
  have hB0 := hB.mv X0.warmed.alike hh0
  have c1 : Steps p.tables e below (s₁.setTop (entryFrame m #[.ref d, .int (Int32.ofNat B.slots.size)] 2)) (s₁.setTop (mkF m 0 #[.val (.ref d), .val (.int (Int32.ofNat B.slots.size))] [])) := entry rfl
  have c2 : Steps p.tables e below (s₁.setTop (entryFrame m #[.ref d, .int (Int32.ofNat B.slots.size)] 2)) (s₁.setTop (mkF m 2 #[.val (.ref d), .val (.int (Int32.ofNat B.slots.size))] [.ref d, .int (Int32.ofNat B.slots.size)])) := c1.trans (by
    refine XS.iloadN X0.here hexec rfl (hb hbytes d0) rfl ?_
    refine XS.aloadN X0.here hexec rfl (hb hbytes d1) rfl rfl ?_
    exact Steps.refl _)
  have c3 : Steps p.tables e below (s₁.setTop (entryFrame m #[.ref d, .int (Int32.ofNat B.slots.size)] 2)) (s₁.setTop (mkF m 8 #[.val (.ref d), .val (.int (Int32.ofNat B.slots.size))] [.int (lo8 (ushr (Int32.ofNat B.slots.size - Int32.ofNat B.slots.size) 31))])) := c2.trans (by
    refine X0.alen hexec hB0 rfl rfl (hb hbytes d2) ?_
    refine XS.isub X0.here hexec rfl (hb hbytes d3) rfl ?_
    refine bipushV X0.here hexec rfl 31 (hb hbytes d4) (by decide) ?_
    refine iushr X0.here hexec rfl (hb hbytes d6) rfl ?_
    refine i2b X0.here hexec rfl (hb hbytes d7) rfl ?_
    exact Steps.refl _)
  have e0 : lo8 (ushr (Int32.ofNat B.slots.size - Int32.ofNat B.slots.size) 31) = 0 := by rw [Int32.sub_self]; decide
  rw [e0] at c3
  exact ⟨s₁, some (.int 0), _, _, _, X0, rfl, rfl, rfl, (fun h => by cases h), ⟨rfl, hh0⟩, fun fs hl => c3.trans (X0.ireturnOut hexec hret rfl (Or.inr (Or.inr (Or.inl rfl))) (hb hbytes d8) hl)⟩
end CodL
/-- the String at a is Latin-1 over a new byte[] (the heap's one new cell): the low bytes of the len chars of A from o on; every cell but a is kept -/
def Got (a : Addr) (D : Cell) (fV fC : Field) (A : Cell) (o len : Nat) (r : Option Value) (s u : State) : Prop := r = none ∧ ∃ D' V : Cell, Blank "java/lang/String" a D' u ∧ Same D D' [fV.slot, fC.slot] ∧ D'.slots[fV.slot]? = some (.ref s.heap.size) ∧ D'.slots[fC.slot]? = some (.int 0) ∧ Arr .byte s.heap.size V u ∧ V.vm = .none ∧ u.vm.findClass "[B" = some V.cls ∧ V.slots.size = len ∧ (∀ j, j < len → V.slots[j]? = some (.int (lo8 (cv A (o + j))))) ∧ (∀ (y : Addr) (c : Cell), y ≠ a → s.heap[y]? = some c → u.heap[y]? = some c) ∧ u.heap.size = s.heap.size + 1
theorem Got.mv {a : Addr} {D A : Cell} {fV fC : Field} {o len : Nat} : ∀ r (U U' V V' : State), U'.heap = U.heap → V.vm.Alike V'.vm → V'.heap = V.heap → Got a D fV fC A o len r U V → Got a D fV fC A o len r U' V' :=
  fun r U U' V V' h1 hal h2 ⟨e0, D', X, a1, a2, a3, a4, a5, a6, a7, a8, a9, a10, a11⟩ => ⟨e0, D', X, a1.mv hal h2, a2, by rw [h1]; exact a3, a4, by rw [h1]; exact a5.mv hal h2, a6, by rw [hal.findClass]; exact a7, a8, a9, by rw [h1, h2]; exact a10, by rw [h1, h2]; exact a11⟩
namespace New4
def yN : MethodName := ⟨"java/lang/String", "<init>", "([CIILjava/lang/Void;)V"⟩
abbrev yB : ByteArray := jdk_42_method_149_code
theorem d0 : decode yB 0 = .ok (.aload_n 0, 1) := by decide +kernel
theorem d1 : decode yB 1 = .ok (.invokespecial 1, 3) := by decide +kernel
theorem d4 : decode yB 4 = .ok (.iload_n 3, 1) := by decide +kernel
theorem d5 : decode yB 5 = .ok (.ifCond (.ne) 22, 3) := by decide +kernel
theorem d27 : decode yB 27 = .ok (.getstatic 38, 3) := by decide +kernel
theorem d30 : decode yB 30 = .ok (.ifCond (.eq) 28, 3) := by decide +kernel
theorem d33 : decode yB 33 = .ok (.aload_n 1, 1) := by decide +kernel
theorem d34 : decode yB 34 = .ok (.iload_n 2, 1) := by decide +kernel
theorem d35 : decode yB 35 = .ok (.iload_n 3, 1) := by decide +kernel
theorem d36 : decode yB 36 = .ok (.invokestatic 177, 3) := by decide +kernel
theorem d39 : decode yB 39 = .ok (.astore 5, 2) := by decide +kernel
theorem d41 : decode yB 41 = .ok (.aload_n 0, 1) := by decide +kernel
theorem d42 : decode yB 42 = .ok (.aload 5, 2) := by decide +kernel
theorem d44 : decode yB 44 = .ok (.iload_n 3, 1) := by decide +kernel
theorem d45 : decode yB 45 = .ok (.invokestatic 47, 3) := by decide +kernel
theorem d48 : decode yB 48 = .ok (.putfield 15, 3) := by decide +kernel
theorem d51 : decode yB 51 = .ok (.aload_n 0, 1) := by decide +kernel
theorem d52 : decode yB 52 = .ok (.aload 5, 2) := by decide +kernel
theorem d54 : decode yB 54 = .ok (.putfield 9, 3) := by decide +kernel
theorem d57 : decode yB 57 = .ok (.return_, 1) := by decide +kernel
def site : List Cond := [.fieldLink "java/lang/String" 38 "java/lang/String" "COMPACT_STRINGS" "Z", Cmp3.tab, CodL.tab, .laysFinal "java/lang/String" "java/lang/String" "value" "[B", .fieldLink "java/lang/String" 9 "java/lang/String" "value" "[B", .laysFinal "java/lang/String" "java/lang/String" "coder" "B", .fieldLink "java/lang/String" 15 "java/lang/String" "coder" "B"] ++ objW "java/lang/String" 1 ++ staticW "java/lang/String" 177 Cmp3.yN ++ staticW "java/lang/String" 47 CodL.yN
def tab : Cond := tabOf yN yB 6 none site
def P (a : Addr) (D : Cell) (fV fC : Field) (b : Addr) (A : Cell) (z : Int32) (o len : Nat) (args : Array Value) (s : State) : Prop := args = #[.ref a, .ref b, .int (Int32.ofNat o), .int (Int32.ofNat len), .null] ∧ Blank "java/lang/String" a D s ∧ Found "java/lang/String" "value" "[B" fV s ∧ Found "java/lang/String" "coder" "B" fC s ∧ Ch b A s ∧ StaticIs s "java/lang/String" "COMPACT_STRINGS" "Z" (.int z) ∧ ¬ z = 0 ∧ 0 < len ∧ o + len ≤ A.slots.size ∧ len ≤ 536870912 ∧ ∀ i, i < len → ¬ 255 < cv A (o + i)
def E (a : Addr) (D : Cell) (fV fC : Field) (A : Cell) (o len : Nat) (r : Option Value) (s u : State) : Prop := Got a D fV fC A o len r s u
/-- len > 0, no char of the range above 255: a Latin-1 String of their low bytes -/
theorem law (l : Launch) (a : Addr) (D : Cell) (fV fC : Field) (b : Addr) (A : Cell) (z : Int32) (o len : Nat) : Law l yN 5 4 2 35 yB 6 none site (P a D fV fC b A z o len) (E a D fV fC A o len) [⟨a, fC.slot⟩, ⟨a, fV.slot⟩] 1 len := by
  refine Law.of_walk (plainFor_of_name (by decide +kernel)) (by decide +kernel) (by decide +kernel) (by decide) (fun _ _ h => by rw [h.1]; rfl) (fun _ U U' hal hh h => ⟨h.1, h.2.1.mv hal hh, h.2.2.1.al hal, h.2.2.2.1.al hal, h.2.2.2.2.1.mv hal hh, h.2.2.2.2.2.1.there hal hh, h.2.2.2.2.2.2⟩) (fun r U U' V V' h1 hal h2 h => Got.mv r U U' V V' h1 hal h2 h) ?_
  intro p e s m args below meth c s₁ X0 hexec hbytes hml hret hlk hnm hown hh0 W hP
  obtain ⟨rfl, hB, f1, f2, hA, s1, hz, l0, l1, l2, hp⟩ := hP
  have a31 := hA.1.2.2.2
  have c1 : Steps p.tables e below (s₁.setTop (entryFrame m #[.ref a, .ref b, .int (Int32.ofNat o), .int (Int32.ofNat len), .null] 6)) (s₁.setTop (mkF m 0 #[.val (.ref a), .val (.ref b), .val (.int (Int32.ofNat o)), .val (.int (Int32.ofNat len)), .val .null, .unset] [])) := entry rfl
  have c2 : Steps p.tables e below (s₁.setTop (entryFrame m #[.ref a, .ref b, .int (Int32.ofNat o), .int (Int32.ofNat len), .null] 6)) (s₁.setTop (mkF m 1 #[.val (.ref a), .val (.ref b), .val (.int (Int32.ofNat o)), .val (.int (Int32.ofNat len)), .val .null, .unset] [.ref a])) := c1.trans (by
    refine XS.aloadN X0.here hexec rfl (hb hbytes d0) rfl rfl ?_
    exact Steps.refl _)
  obtain ⟨T3, X3, q3, st3⟩ := X0.oinit hexec hown (wks W (objW "java/lang/String" 1)) (g := (mkF m 1 #[.val (.ref a), .val (.ref b), .val (.int (Int32.ofNat o)), .val (.int (Int32.ofNat len)), .val .null, .unset] [.ref a])) rfl (by rw [hml]; rfl) (rest := []) rfl (hb hbytes d1) (W := 0) (by show 2 * 0 + 0 ≤ _; decide) (Nat.le_of_ble_eq_true rfl) (Nat.le_of_ble_eq_true rfl)
  have hh3 := q3.trans hh0
  have c4 : Steps p.tables e below (s₁.setTop (entryFrame m #[.ref a, .ref b, .int (Int32.ofNat o), .int (Int32.ofNat len), .null] 6)) (T3.setTop (mkF m 27 #[.val (.ref a), .val (.ref b), .val (.int (Int32.ofNat o)), .val (.int (Int32.ofNat len)), .val .null, .unset] [])) := (c2.trans (st3 _ (Steps.refl _))).trans (by
    refine XS.iloadN X3.here hexec rfl (hb hbytes d4) rfl ?_
    refine XS.ifYes X3.here hexec rfl (pc0 := 5) rfl (hb hbytes d5) rfl (i0_ne_t (nz32 (by omega) l0)) (by decide) rfl ?_
    exact Steps.refl _)
  obtain ⟨T5, X5, q5, st5⟩ := X3.sget hexec hown (wk W (.fieldLink "java/lang/String" 38 "java/lang/String" "COMPACT_STRINGS" "Z")) s1 (fun _ _ h => by rw [hh3]; exact h) (g := (mkF m 27 #[.val (.ref a), .val (.ref b), .val (.int (Int32.ofNat o)), .val (.int (Int32.ofNat len)), .val .null, .unset] [])) rfl (hb hbytes d27)
  have hh5 := q5.trans hh3
  have c6 : Steps p.tables e below (s₁.setTop (entryFrame m #[.ref a, .ref b, .int (Int32.ofNat o), .int (Int32.ofNat len), .null] 6)) (T5.setTop (mkF m 30 #[.val (.ref a), .val (.ref b), .val (.int (Int32.ofNat o)), .val (.int (Int32.ofNat len)), .val .null, .unset] [.int z])) := c4.trans (st5 _ (Steps.refl _))
  have c7 : Steps p.tables e below (s₁.setTop (entryFrame m #[.ref a, .ref b, .int (Int32.ofNat o), .int (Int32.ofNat len), .null] 6)) (T5.setTop (mkF m 36 #[.val (.ref a), .val (.ref b), .val (.int (Int32.ofNat o)), .val (.int (Int32.ofNat len)), .val .null, .unset] [.int (Int32.ofNat len), .int (Int32.ofNat o), .ref b])) := c6.trans (by
    refine XS.ifNo X5.here hexec rfl (hb hbytes d30) rfl (i0_eq_f hz) ?_
    refine XS.aloadN X5.here hexec rfl (hb hbytes d33) rfl rfl ?_
    refine XS.iloadN X5.here hexec rfl (hb hbytes d34) rfl ?_
    refine XS.iloadN X5.here hexec rfl (hb hbytes d35) rfl ?_
    exact Steps.refl _)
  obtain ⟨v8, T8, X8, E8, g8⟩ := X5.callS hexec (Cmp3.law l b A o len) hown (wks W (staticW "java/lang/String" 177 Cmp3.yN)) (wk W Cmp3.tab) (W := 0) (Nat.le_of_ble_eq_true rfl) (Nat.le_of_ble_eq_true rfl) (Nat.le_refl _) (by show 0 + len ≤ len; omega) (g := (mkF m 36 #[.val (.ref a), .val (.ref b), .val (.int (Int32.ofNat o)), .val (.int (Int32.ofNat len)), .val .null, .unset] [.int (Int32.ofNat len), .int (Int32.ofNat o), .ref b])) rfl (by rw [hml]; rfl) c7 (argsL := [.ref b, .int (Int32.ofNat o), .int (Int32.ofNat len)]) (rest := []) rfl rfl (by show 2 * 0 + 0 ≤ _; decide) (hb hbytes d36) (⟨rfl, hA.mv X5.warmed.alike hh5, l1, l2, hp⟩)
  obtain ⟨e8, z8⟩ := E8
  obtain ⟨rfl, N, n1, n2, n3, n4, n5, n6⟩ := NewArr.mv _ T5 s _ _ hh5.symm (Vm.Alike.refl _) rfl e8
  rw [hh5] at z8
  have hB1 := hB.keep X8.warmed.alike (n6 _ _ hB.1)
  have hne : s.heap.size ≠ a := (Nat.ne_of_lt (Array.getElem?_eq_some_iff.mp hB.1).1).symm
  have c9 : Steps p.tables e below (s₁.setTop (entryFrame m #[.ref a, .ref b, .int (Int32.ofNat o), .int (Int32.ofNat len), .null] 6)) (T8.setTop (mkF m 39 #[.val (.ref a), .val (.ref b), .val (.int (Int32.ofNat o)), .val (.int (Int32.ofNat len)), .val .null, .unset] [.ref s.heap.size])) := g8
  have c10 : Steps p.tables e below (s₁.setTop (entryFrame m #[.ref a, .ref b, .int (Int32.ofNat o), .int (Int32.ofNat len), .null] 6)) (T8.setTop (mkF m 45 #[.val (.ref a), .val (.ref b), .val (.int (Int32.ofNat o)), .val (.int (Int32.ofNat len)), .val .null, .val (.ref s.heap.size)] [.int (Int32.ofNat N.slots.size), .ref s.heap.size, .ref a])) := by
    have hc : Steps p.tables e below (s₁.setTop (entryFrame m #[.ref a, .ref b, .int (Int32.ofNat o), .int (Int32.ofNat len), .null] 6)) (T8.setTop (mkF m 45 #[.val (.ref a), .val (.ref b), .val (.int (Int32.ofNat o)), .val (.int (Int32.ofNat len)), .val .null, .val (.ref s.heap.size)] [.int (Int32.ofNat len), .ref s.heap.size, .ref a])) := c9.trans (by
      refine XS.astore X8.here hexec rfl (hb hbytes d39) rfl rfl rfl ?_
      refine XS.aloadN X8.here hexec rfl (hb hbytes d41) rfl rfl ?_
      refine XS.aload X8.here hexec rfl (hb hbytes d42) rfl rfl ?_
      refine XS.iloadN X8.here hexec rfl (hb hbytes d44) rfl ?_
      exact Steps.refl _)
    rw [n4]; exact hc
  obtain ⟨v11, T11, X11, E11, g11⟩ := X8.callS hexec (CodL.law l s.heap.size N) hown (wks W (staticW "java/lang/String" 47 CodL.yN)) (wk W CodL.tab) (W := 1) (Nat.le_of_ble_eq_true rfl) (Nat.le_of_ble_eq_true rfl) (Nat.le_refl _) (by show 0 + len + 0 ≤ len; omega) (g := (mkF m 45 #[.val (.ref a), .val (.ref b), .val (.int (Int32.ofNat o)), .val (.int (Int32.ofNat len)), .val .null, .val (.ref s.heap.size)] [.int (Int32.ofNat N.slots.size), .ref s.heap.size, .ref a])) rfl (by rw [hml]; rfl) c10 (argsL := [.ref s.heap.size, .int (Int32.ofNat N.slots.size)]) (rest := [.ref a]) rfl rfl (by show 2 * 0 + (1 + 0) ≤ _; decide) (hb hbytes d45) (⟨rfl, n1⟩)
  obtain ⟨rfl, q11⟩ := E11
  have hB11 := hB1.mv (X8.warmed.alike.symm.trans X11.warmed.alike) q11
  have c12 : Steps p.tables e below (s₁.setTop (entryFrame m #[.ref a, .ref b, .int (Int32.ofNat o), .int (Int32.ofNat len), .null] 6)) (T11.setTop (mkF m 48 #[.val (.ref a), .val (.ref b), .val (.int (Int32.ofNat o)), .val (.int (Int32.ofNat len)), .val .null, .val (.ref s.heap.size)] [.int 0, .ref a])) := g11
  obtain ⟨T13, X13, p13, bl13, sl13, st13⟩ := X11.finit hexec hown (wk W (.fieldLink "java/lang/String" 15 "java/lang/String" "coder" "B")) (Or.inr ⟨_, (wk W (.laysFinal "java/lang/String" "java/lang/String" "coder" "B"))⟩) (Or.inl ⟨rfl, hnm⟩) f2 (Or.inl rfl) hB11 (t := .byte) (by decide +kernel) rfl (g := (mkF m 48 #[.val (.ref a), .val (.ref b), .val (.int (Int32.ofNat o)), .val (.int (Int32.ofNat len)), .val .null, .val (.ref s.heap.size)] [.int 0, .ref a])) rfl (rest := []) rfl (hb hbytes d48)
  have c14 : Steps p.tables e below (s₁.setTop (entryFrame m #[.ref a, .ref b, .int (Int32.ofNat o), .int (Int32.ofNat len), .null] 6)) (T13.setTop (mkF m 54 #[.val (.ref a), .val (.ref b), .val (.int (Int32.ofNat o)), .val (.int (Int32.ofNat len)), .val .null, .val (.ref s.heap.size)] [.ref s.heap.size, .ref a])) := (c12.trans (st13 _ (Steps.refl _))).trans (by
    refine XS.aloadN X13.here hexec rfl (hb hbytes d51) rfl rfl ?_
    refine XS.aload X13.here hexec rfl (hb hbytes d52) rfl rfl ?_
    exact Steps.refl _)
  obtain ⟨T15, X15, p15, bl15, sl15, st15⟩ := X13.finit hexec hown (wk W (.fieldLink "java/lang/String" 9 "java/lang/String" "value" "[B")) (Or.inr ⟨_, (wk W (.laysFinal "java/lang/String" "java/lang/String" "value" "[B"))⟩) (Or.inl ⟨rfl, hnm⟩) f1 (Or.inl rfl) bl13 (t := (.array .byte)) (by decide +kernel) rfl (g := (mkF m 54 #[.val (.ref a), .val (.ref b), .val (.int (Int32.ofNat o)), .val (.int (Int32.ofNat len)), .val .null, .val (.ref s.heap.size)] [.ref s.heap.size, .ref a])) rfl (rest := []) rfl (hb hbytes d54)
  have c16 : Steps p.tables e below (s₁.setTop (entryFrame m #[.ref a, .ref b, .int (Int32.ofNat o), .int (Int32.ofNat len), .null] 6)) (T15.setTop (mkF m 57 #[.val (.ref a), .val (.ref b), .val (.int (Int32.ofNat o)), .val (.int (Int32.ofNat len)), .val .null, .val (.ref s.heap.size)] [])) := c14.trans (st15 _ (Steps.refl _))
  have ap := apart (Or.inr ⟨_, (wk W (.laysFinal "java/lang/String" "java/lang/String" "value" "[B"))⟩) (Or.inr ⟨_, (wk W (.laysFinal "java/lang/String" "java/lang/String" "coder" "B"))⟩) f1 f2 (t₁ := .array .byte) (t₂ := .byte) (by decide +kernel) (by decide +kernel) (by decide)
  have al := X8.warmed.alike.symm.trans X15.warmed.alike
  have n7 : T11.heap[s.heap.size]? = some N := by rw [q11]; exact n1.1
  exact ⟨T15, none, _, _, _, X15, by simp, rfl, by omega, (fun _ => rfl), ⟨rfl, _, N, bl15, ((Same.refl D _).set _ (by simp)).set _ (by simp), sl15, (Cell.slots_setSlot_ne _ ap).trans sl13, n1.keep al (p15.other hne (p13.other hne n7)), n2, by rw [al.findClass]; exact n3, n4, n5, fun y c h1 h2 => p15.other h1 (p13.other h1 (by rw [q11]; exact n6 y c h2)), by rw [p15.2.2, p13.2.2, q11]; exact z8⟩, fun fs hl => c16.trans (X15.returnOut hexec hret (hb hbytes d57) hl)⟩
end New4
namespace New1
def yN : MethodName := ⟨"java/lang/String", "<init>", "([C)V"⟩
abbrev yB : ByteArray := jdk_42_method_3_code
theorem d0 : decode yB 0 = .ok (.aload_n 0, 1) := by decide +kernel
theorem d1 : decode yB 1 = .ok (.aload_n 1, 1) := by decide +kernel
theorem d2 : decode yB 2 = .ok (.iconst 0, 1) := by decide +kernel
theorem d3 : decode yB 3 = .ok (.aload_n 1, 1) := by decide +kernel
theorem d4 : decode yB 4 = .ok (.arraylength, 1) := by decide +kernel
theorem d5 : decode yB 5 = .ok (.aconst_null, 1) := by decide +kernel
theorem d6 : decode yB 6 = .ok (.invokespecial 27, 3) := by decide +kernel
theorem d9 : decode yB 9 = .ok (.return_, 1) := by decide +kernel
def site : List Cond := [New4.tab] ++ initW "java/lang/String" 27 New4.yN
def tab : Cond := tabOf yN yB 2 none site
def P (a : Addr) (D : Cell) (fV fC : Field) (b : Addr) (A : Cell) (z : Int32) (args : Array Value) (s : State) : Prop := args = #[.ref a, .ref b] ∧ Blank "java/lang/String" a D s ∧ Found "java/lang/String" "value" "[B" fV s ∧ Found "java/lang/String" "coder" "B" fC s ∧ Ch b A s ∧ StaticIs s "java/lang/String" "COMPACT_STRINGS" "Z" (.int z) ∧ ¬ z = 0 ∧ 0 < A.slots.size ∧ A.slots.size ≤ 536870912 ∧ ∀ i, i < A.slots.size → ¬ 255 < cv A i
def E (a : Addr) (D : Cell) (fV fC : Field) (A : Cell) (r : Option Value) (s u : State) : Prop := Got a D fV fC A 0 A.slots.size r s u
/-- new String(chars), not empty, no char above 255: a Latin-1 String of their low bytes -/
theorem law (l : Launch) (a : Addr) (D : Cell) (fV fC : Field) (b : Addr) (A : Cell) (z : Int32) : Law l yN 2 1 3 52 yB 2 none site (P a D fV fC b A z) (E a D fV fC A) [⟨a, fC.slot⟩, ⟨a, fV.slot⟩] 1 A.slots.size := by
  refine Law.of_walk (plainFor_of_name (by decide +kernel)) (by decide +kernel) (by decide +kernel) (by decide) (fun _ _ h => by rw [h.1]; rfl) (fun _ U U' hal hh h => ⟨h.1, h.2.1.mv hal hh, h.2.2.1.al hal, h.2.2.2.1.al hal, h.2.2.2.2.1.mv hal hh, h.2.2.2.2.2.1.there hal hh, h.2.2.2.2.2.2⟩) (fun r U U' V V' h1 hal h2 h => Got.mv r U U' V V' h1 hal h2 h) ?_
  intro p e s m args below meth c s₁ X0 hexec hbytes hml hret hlk hnm hown hh0 W hP
  obtain ⟨rfl, hB, f1, f2, hA, s1, hz, l0, l2, hp⟩ := hP
  have c1 : Steps p.tables e below (s₁.setTop (entryFrame m #[.ref a, .ref b] 2)) (s₁.setTop (mkF m 0 #[.val (.ref a), .val (.ref b)] [])) := entry rfl
  have c2 : Steps p.tables e below (s₁.setTop (entryFrame m #[.ref a, .ref b] 2)) (s₁.setTop (mkF m 6 #[.val (.ref a), .val (.ref b)] [.null, .int (Int32.ofNat A.slots.size), .int 0, .ref b, .ref a])) := c1.trans (by
    refine XS.aloadN X0.here hexec rfl (hb hbytes d0) rfl rfl ?_
    refine XS.aloadN X0.here hexec rfl (hb hbytes d1) rfl rfl ?_
    refine iconstV X0.here hexec rfl 0 (hb hbytes d2) (by decide) ?_
    refine XS.aloadN X0.here hexec rfl (hb hbytes d3) rfl rfl ?_
    refine X0.alen hexec (hA.1.mv X0.warmed.alike hh0) rfl rfl (hb hbytes d4) ?_
    refine XS.aconstNull X0.here hexec rfl (hb hbytes d5) ?_
    exact Steps.refl _)
  obtain ⟨v3, T3, X3, E3, g3⟩ := X0.callN hexec (New4.law l a D fV fC b A z 0 A.slots.size) rfl hown (wks W (initW "java/lang/String" 27 New4.yN)) (W New4.tab (by simp only [site, List.mem_cons, List.mem_append, true_or, or_true])) (W := 0) (Nat.le_of_ble_eq_true rfl) (Nat.le_of_ble_eq_true rfl) (Nat.le_refl _) (by show 0 + A.slots.size ≤ A.slots.size; omega) (g := (mkF m 6 #[.val (.ref a), .val (.ref b)] [.null, .int (Int32.ofNat A.slots.size), .int (Int32.ofNat 0), .ref b, .ref a])) rfl (by rw [hml]; rfl) c2 (argsL := [.ref b, .int (Int32.ofNat 0), .int (Int32.ofNat A.slots.size), .null]) (rest := []) rfl rfl (by show 2 * 0 + 0 ≤ _; decide) (hb hbytes d6) (⟨rfl, hB.mv X0.warmed.alike hh0, f1.al X0.warmed.alike, f2.al X0.warmed.alike, hA.mv X0.warmed.alike hh0, s1.there X0.warmed.alike hh0, hz, l0, by omega, l2, fun i hi => by rw [Nat.zero_add]; exact hp i hi⟩)
  have e0 := Got.mv _ s₁ s _ _ hh0.symm (Vm.Alike.refl _) rfl E3
  obtain rfl := e0.1
  have c4 : Steps p.tables e below (s₁.setTop (entryFrame m #[.ref a, .ref b] 2)) (T3.setTop (mkF m 9 #[.val (.ref a), .val (.ref b)] [])) := g3
  exact ⟨T3, none, _, _, _, X3, by simp, rfl, by omega, (fun _ => rfl), e0, fun fs hl => c4.trans (X3.returnOut hexec hret (hb hbytes d9) hl)⟩
theorem pays {l : Launch} {R : Room} {p : Program} {e : Env} {below : List Frame} {s : State} {sargs : Array Value} {len W : Nat} (a : Addr) (D : Cell) (fV fC : Field) (b : Addr) (A : Cell) (z : Int32) (htab : tab.before sargs s = true) (hfr : 4 ≤ R.frames) (hlo : W + 65 ≤ R.locals) :
    Back l R p e below s sargs yN len W (fun A₁ a₁ => A₁.cells + 1 ≤ R.cells ∧ A₁.slots + A.slots.size ≤ R.slots ∧ P a D fV fC b A z a₁ A₁.U) (fun A₁ _ v₁ B₁ => E a D fV fC A v₁ A₁.U B₁.U ∧ B₁.locs = A₁.locs ++ [⟨a, fC.slot⟩, ⟨a, fV.slot⟩] ∧ B₁.cells = A₁.cells + 1 ∧ B₁.slots = A₁.slots + A.slots.size) :=
  (law l a D fV fC b A z).pays htab hfr (by omega)
end New1
end StrChars
namespace StrChars.Road
open Jvm Sem ClassFile Op Lib Jvm.Stand Jvm.Free Jvm.Free.XT
open Jvm.Lib.Cold (StaticIs)
abbrev ST : String := "java/lang/String"
/-- every table word that New1's law asks, flat -/
abbrev words : List Jvm.Cond := [.code New1.yN New1.yB 2 none, .initialized ST, .methodLink ST 27 New4.yN, .instanceMethod New4.yN,
  .code New4.yN New4.yB 6 none, .fieldLink ST 38 ST "COMPACT_STRINGS" "Z", .laysFinal ST ST "value" "[B", .fieldLink ST 9 ST "value" "[B", .laysFinal ST ST "coder" "B", .fieldLink ST 15 ST "coder" "B",
  .methodLink ST 1 Lib.objectInit, .instanceMethod Lib.objectInit, .code Lib.objectInit ⟨#[0xb1]⟩ 1 none, .methodLink ST 177 Cmp3.yN, .static Cmp3.yN, .methodLink ST 47 CodL.yN, .static CodL.yN,
  .code Cmp3.yN Cmp3.yB 6 (some (.array .byte)), .initialized U16, .arrayClass .byte, .methodLink U16 115 Cmp5.yN, .static Cmp5.yN, .code Cmp5.yN Cmp5.yB 7 (some .int), .code CodL.yN CodL.yB 2 (some .byte)]
theorem tab_of {a : Array Value} {s : State} (h : ∀ w ∈ words, w.before a s = true) : New1.tab.before a s = true := by
  have h5 : Cmp5.tab.before a s = true := unparts (wk h (.code Cmp5.yN Cmp5.yB 7 (some .int))) (wks h (.initialized Cmp5.yN.cls :: Cmp5.site))
  have hc : CodL.tab.before a s = true := unparts (wk h (.code CodL.yN CodL.yB 2 (some .byte))) (wks h (.initialized CodL.yN.cls :: CodL.site))
  have q5 : ∀ w ∈ Cmp5.tab :: words, w.before a s = true := fun w hw => (List.mem_cons.mp hw).elim (fun e => e ▸ h5) (h w)
  have h3 : Cmp3.tab.before a s = true := unparts (wk q5 (.code Cmp3.yN Cmp3.yB 6 (some (.array .byte)))) (wks q5 (.initialized Cmp3.yN.cls :: Cmp3.site))
  have q3 : ∀ w ∈ Cmp3.tab :: CodL.tab :: words, w.before a s = true := fun w hw => (List.mem_cons.mp hw).elim (fun e => e ▸ h3) fun hw => (List.mem_cons.mp hw).elim (fun e => e ▸ hc) (h w)
  have h4 : New4.tab.before a s = true := unparts (wk q3 (.code New4.yN New4.yB 6 none)) (wks q3 (.initialized New4.yN.cls :: New4.site))
  have q4 : ∀ w ∈ New4.tab :: words, w.before a s = true := fun w hw => (List.mem_cons.mp hw).elim (fun e => e ▸ h4) (h w)
  exact unparts (wk q4 (.code New1.yN New1.yB 2 none)) (wks q4 (.initialized New1.yN.cls :: New1.site))
/-- the words ride from the start Z to the walk's own state -/
theorem moved {Z s : State} {a0 args : Array Value} (hZ : Z.Warmed39 s.vm) (hw : ∀ d ∈ words, d.before a0 Z = true) : ∀ d ∈ words, d.before args s = true := fun d hd => by
  have q := hw d hd
  have t : ∀ d ∈ words, d = .arrayClass .byte ∨ (d.onTables && d.keepsFace) = true := by decide +kernel
  rcases t d hd with rfl | t
  · exact RoadKit.mvA hZ q
  · exact RoadKit.mv hZ q t
/-- WHAT COMES BACK, over the tables of the start Z: h the heap at the call, h' behind it -/
def Q (Z : State) (x : Addr) (A : Cell) (h : Heap) (v : Option Value) (h' : Heap) (L : List Loc) : Prop := v = none ∧ (∀ y ∈ L, y.base = x) ∧ RoadKit.Keep h h' [x] ∧ h'.size = h.size + 1 ∧ RoadKit.Exa Z h' x ST ∧ RoadKit.Fld Z h' x ST "value" "[B" (.ref h.size) ∧ RoadKit.Fld Z h' x ST "coder" "B" (.int 0) ∧
  (∃ V : Cell, RoadKit.Arr Z h' h.size V .byte ∧ V.vm = .none ∧ Z.vm.findClass "[B" = some V.cls ∧ V.slots.size = A.slots.size ∧ ∀ j, j < A.slots.size → V.slots[j]? = some (.int (lo8 (cv A j)))) ∧
  ∀ (O n d : String) (w : Value), RoadKit.Fld Z h x O n d w → RoadKit.slotOf Z O n d ≠ RoadKit.slotOf Z ST "value" "[B" → RoadKit.slotOf Z O n d ≠ RoadKit.slotOf Z ST "coder" "B" → RoadKit.Fld Z h' x O n d w
/-- **new String(chars) AT A CALL, IN THE ROAD'S FORM**: for specialBack behind newO: x the fresh String, b the char[] with the cell A -/
theorem back {p : Program} {l : Launch} {e : Env} {R : Room} {s : State} {args : Array Value} {below : List Frame} {len W : Nat} {Z : State} {a0 : Array Value} {h : Heap} (hZ : Z.Warmed39 s.vm) (hw : ∀ d ∈ words, d.before a0 Z = true) {kI : Nat} (wi : (Jvm.Cond.instantiable ST kI).before a0 Z = true)
    {x b : Addr} {A : Cell} {z : Int32} {v0 c0 : Value} (E : RoadKit.Exa Z h x ST) (V : RoadKit.Fld Z h x ST "value" "[B" v0) (C : RoadKit.Fld Z h x ST "coder" "B" c0) (K : RoadKit.Arr Z h b A .char) (hty : Typed .char A) (S : RoadKit.Sta Z h ST "COMPACT_STRINGS" "Z" (.int z)) (hz : ¬ z = 0)
    (l0 : 0 < A.slots.size) (l2 : A.slots.size ≤ 536870912) (hp : ∀ i, i < A.slots.size → ¬ 255 < cv A i) (hfr : 4 ≤ R.frames) (hlo : W + 65 ≤ R.locals) :
    Back l R p e below s args New1.yN len W (fun P a => a = #[.ref x, .ref b] ∧ P.U.heap = h ∧ P.cells + 1 ≤ R.cells ∧ P.slots + A.slots.size ≤ R.slots)
      (fun P _ v B => ∃ L, Q Z x A h v B.U.heap L ∧ B.locs = P.locs ++ L ∧ B.cells = P.cells + 1 ∧ B.slots = P.slots + A.slots.size) := by
  intro m meth c P g ig mk a X hg hsize hdg hW hn hp'
  obtain ⟨rfl, rfl, r1, r2⟩ := hp'
  have al : Z.vm.Alike P.U.vm := hZ.alike.trans X.warmed.alike
  obtain ⟨D, cfV, kV, iV, fV, hD, gV, stV, knV, obV, asV, slV⟩ := id V
  obtain ⟨D', cfC, kC, iC, fC, hD', gC, stC, -, -, asC, slC⟩ := id C
  cases hD.symm.trans hD'
  obtain ⟨D2, kD, e1, e2, e3, e4, e5⟩ := id E
  cases hD.symm.trans e1
  obtain ⟨c2, k2, i1, i2, i3, -⟩ := Cond.instantiable_spec wi
  cases e2.symm.trans i1
  cases e3.symm.trans i2
  obtain ⟨kU, u1, u2⟩ := al.2.2 _ _ e3
  have hB : Blank ST x D P.U := ⟨hD, ⟨knV, fun q hq => by rw [hq] at obV; cases obV⟩, by rw [al.findClass]; exact e2, kU, u1, by rw [u2]; exact i3, by rw [u2]; exact e5 i3⟩
  have F1 : Found ST "value" "[B" fV P.U := ⟨SBG.found_only al ⟨cfV, kV, iV, gV⟩, stV⟩
  have F2 : Found ST "coder" "B" fC P.U := ⟨SBG.found_only al ⟨cfC, kC, iC, gC⟩, stC⟩
  have hA : Ch b A P.U := ⟨⟨K.1, State.isArrayOf_alike al K.2.1, K.2.2, by omega⟩, hty⟩
  have hS : StaticIs P.U ST "COMPACT_STRINGS" "Z" (.int z) := by
    obtain ⟨cfS, iS, kS, fS, st, cS, t1, t2, t3, t4, t5, t6, t7⟩ := S
    exact StaticIs.there (s := { Z with heap := P.U.heap }) ⟨cfS, iS, kS, fS, st, cS, t1, t2, t3, t4, t5, (fun q => by rw [q] at t6; cases t6), t7⟩ al rfl
  obtain ⟨v, B, X', ⟨⟨hv, E', V', q1, q2, q3, q4, q5, q6, q7, q8, q9, q10, q11⟩, hl, hc, hs⟩, st⟩ := New1.pays x D fV fC b A z (tab_of (moved hZ hw)) hfr hlo m meth c P g ig mk _ X hg hsize hdg hW hn ⟨r1, r2, rfl, hB, F1, F2, hA, hS, hz, l0, l2, hp⟩
  have al' : Z.vm.Alike B.U.vm := hZ.alike.trans X'.warmed.alike
  have hsz : E'.slots.size = D.slots.size := by
    obtain ⟨-, -, -, kB, w1, w2, w3⟩ := q1
    obtain ⟨kB', y1, y2⟩ := al'.2.2 _ _ e3
    rw [q2.2.1] at w1
    cases w1.symm.trans y1
    rw [w3, e5 i3, y2]
  refine ⟨v, B, X', ⟨_, ⟨hv, ?_, ⟨by omega, fun y cy hy hn' => q10 y cy (by simpa using hn') hy, fun y cy hy => ?_⟩, q11, ⟨E', _, q1.1, by rw [q2.2.1]; exact e2, by rw [q2.2.1]; exact e3, by rw [q2.1]; exact obV, fun _ => by rw [hsz]; exact e5 i3⟩,
    ⟨E', cfV, kV, iV, fV, q1.1, gV, stV, by rw [q2.1]; exact knV, by rw [q2.1]; exact obV, by rw [q2.2.1]; exact asV, q3⟩, ⟨E', cfC, kC, iC, fC, q1.1, gC, stC, by rw [q2.1]; exact knV, by rw [q2.1]; exact obV, by rw [q2.2.1]; exact asC, q4⟩,
    ⟨V', ⟨q5.1, State.isArrayOf_alike al'.symm q5.2.1, q5.2.2.1⟩, q6, by rw [← al'.findClass]; exact q7, q8, fun j hj => by have := q9 j hj; rwa [Nat.zero_add] at this⟩, fun O n d w F n1 n2 => ?_⟩, hl, hc, hs⟩, st⟩
  · intro y hy
    simp only [List.mem_cons, List.not_mem_nil, or_false] at hy
    rcases hy with rfl | rfl <;> rfl
  · by_cases q : y = x
    · subst q
      cases hD.symm.trans hy
      exact ⟨E', q1.1, q2.2.1, q2.1, hsz⟩
    · exact ⟨cy, q10 y cy q hy, rfl, rfl, rfl⟩
  · obtain ⟨D3, cf, k, i, f, g1, g2, g3, g4, g5, g6, g7⟩ := F
    cases hD.symm.trans g1
    simp only [RoadKit.slotOf, g2, gV, gC, Option.map_some, Option.getD_some] at n1 n2
    exact ⟨E', cf, k, i, f, q1.1, g2, g3, by rw [q2.1]; exact g4, by rw [q2.1]; exact g5, by rw [q2.2.1]; exact g6, by rw [q2.2.2 f.slot (by simp [n1, n2])]; exact g7⟩
end StrChars.Road
namespace StrChars.Road
open Jvm Sem ClassFile Op Lib Jvm.Stand Jvm.Free Jvm.Free.XT
/-- WHAT COMES BACK, the byte[] as a list of values -/
def QA (Z : State) (x : Addr) (zn : Int32) (cs : List Int32) (h : Heap) (v : Option Value) (h' : Heap) (L : List Loc) : Prop := v = none ∧ (∀ y ∈ L, y.base = x) ∧ RoadKit.Keep h h' [x] ∧ h'.size = h.size + 1 ∧ RoadKit.Exa Z h' x ST ∧ RoadKit.Fld Z h' x ST "value" "[B" (.ref h.size) ∧ RoadKit.Fld Z h' x ST "coder" "B" (.int 0) ∧
  (∃ kb, Z.vm.findClass "[B" = some kb ∧ RoadKit.Arv Z h' h.size kb .byte zn (cs.map fun c => .int (lo8 c)) (.int 0)) ∧
  ∀ (O n d : String) (w : Value), RoadKit.Fld Z h x O n d w → RoadKit.slotOf Z O n d ≠ RoadKit.slotOf Z ST "value" "[B" → RoadKit.slotOf Z O n d ≠ RoadKit.slotOf Z ST "coder" "B" → RoadKit.Fld Z h' x O n d w
/-- **new String(chars) AT A CALL, THE ARRAYS AS LISTS**: the char[] at b holds cs, not empty, no char above 255 -/
theorem backArv {p : Program} {l : Launch} {e : Env} {R : Room} {s : State} {args : Array Value} {below : List Frame} {len W : Nat} {Z : State} {a0 : Array Value} {h : Heap} (hZ : Z.Warmed39 s.vm) (hw : ∀ d ∈ words, d.before a0 Z = true) {kI : Nat} (wi : (Jvm.Cond.instantiable ST kI).before a0 Z = true)
    {x b : Addr} {k : ClassId} {zn z : Int32} {cs : List Int32} {dv v0 c0 : Value} (E : RoadKit.Exa Z h x ST) (V : RoadKit.Fld Z h x ST "value" "[B" v0) (C : RoadKit.Fld Z h x ST "coder" "B" c0) (K : RoadKit.Arv Z h b k .char zn (cs.map Value.int) dv) (S : RoadKit.Sta Z h ST "COMPACT_STRINGS" "Z" (.int z)) (hz : ¬ z = 0)
    (hlen : zn.toNatClampNeg = cs.length) (h0 : 0 < cs.length) (hbig : cs.length ≤ 536870912) (hall : ∀ c ∈ cs, ¬ 255 < c) (hfr : 4 ≤ R.frames) (hlo : W + 65 ≤ R.locals) :
    Back l R p e below s args New1.yN len W (fun P a => a = #[.ref x, .ref b] ∧ P.U.heap = h ∧ P.cells + 1 ≤ R.cells ∧ P.slots + cs.length ≤ R.slots)
      (fun P _ v B => ∃ L, QA Z x zn cs h v B.U.heap L ∧ B.locs = P.locs ++ L ∧ B.cells = P.cells + 1 ∧ B.slots = P.slots + cs.length) := by
  obtain ⟨A, K1, K2, K3, K4, K5, K6⟩ := K
  have e : A.slots.size = cs.length := K3.trans hlen
  have hat : ∀ (i : Nat) (hi : i < cs.length), A.slots[i]? = some (.int cs[i]) := fun i hi => by rw [K5 i (by omega)]; simp [List.getD_eq_getElem?_getD, hi]
  have hcv : ∀ (i : Nat) (hi : i < cs.length), cv A i = cs[i] := fun i hi => by unfold cv; rw [hat i hi]
  have hty : Typed .char A := fun i v hv => by
    have hi : i < A.slots.size := (Array.getElem?_eq_some_iff.mp hv).1
    have q := K5 i hi
    rw [hv] at q
    rw [Option.some.inj q]
    exact K6 i hi
  refine Back.mono (back hZ hw wi E V C K1 hty S hz (by omega) (by omega) (fun i hi => by rw [hcv i (by omega)]; exact hall _ (List.getElem_mem _)) hfr hlo) (fun P a hp => ⟨hp.1, hp.2.1, hp.2.2.1, by rw [e]; exact hp.2.2.2⟩) (fun P a v B hp hq => ?_)
  obtain ⟨L, ⟨q1, q2, q3, q4, q5, q6, q7, ⟨V', v1, v2, v3, v4, v5⟩, q9⟩, hl, hc, hs⟩ := hq
  refine ⟨L, ⟨q1, q2, q3, q4, q5, q6, q7, ⟨V'.cls, v3, V', v1, rfl, by rw [v4, e, hlen], K4, fun i hi => ?_, fun i hi => ?_⟩, q9⟩, hl, hc, by rw [hs, e]⟩
  · have hi' : i < cs.length := by omega
    rw [v5 i (by omega), hcv i hi']; simp [List.getD_eq_getElem?_getD, hi']
  · have hi' : i < cs.length := by omega
    simp only [List.getD_eq_getElem?_getD, List.getElem?_map, List.getElem?_eq_getElem hi', Option.map_some, Option.getD_some]
    exact fits_lo8 _
end StrChars.Road
namespace StrChars.Road
open Jvm Sem ClassFile Op Lib Jvm.Stand Jvm.Free Jvm.Free.XT
/-- WHAT COMES BACK, in the writer's own shape -/
def QV (Z : State) (x : Addr) (N : Int32) (bs : List Int32) (h : Heap) (n0 : Nat) (v : Option Value) (h' : Heap) (L : List Loc) : Prop := v = none ∧ RoadKit.Fr n0 L ∧ RoadKit.Keep h h' [x] ∧ RoadKit.Exa Z h' x ST ∧ RoadKit.Fld Z h' x ST "coder" "B" (.int 0) ∧
  ∃ (t : Addr) (kb : ClassId), n0 ≤ t ∧ h.size ≤ t ∧ ¬ t = x ∧ RoadKit.Fld Z h' x ST "value" "[B" (.ref t) ∧ RoadKit.Arv Z h' t kb .byte N (bs.map Value.int) (.int 0)
/-- **new String(chars) AT A CALL, FOR THE WRITER**: a char[] of n known ints, each 0 to 255 -/
theorem backV {p : Program} {l : Launch} {e : Env} {R : Room} {s : State} {args : Array Value} {below : List Frame} {len W : Nat} {Z : State} {a0 : Array Value} {h : Heap} (hZ : Z.Warmed39 s.vm) (hw : ∀ d ∈ words, d.before a0 Z = true) {kI : Nat} (wi : (Jvm.Cond.instantiable ST kI).before a0 Z = true)
    {x b : Addr} {kC : ClassId} {cs bs : List Int32} {d v0 c0 : Value} {z N : Int32} {n n0 : Nat} (hx0 : n0 ≤ x) (hh0 : n0 ≤ h.size) (E : RoadKit.Exa Z h x ST) (V : RoadKit.Fld Z h x ST "value" "[B" v0) (C : RoadKit.Fld Z h x ST "coder" "B" c0) (K : RoadKit.Arv Z h b kC .char N (cs.map Value.int) d) (S : RoadKit.Sta Z h ST "COMPACT_STRINGS" "Z" (.int z)) (hz : ¬ z = 0)
    (hn : cs.length = n) (hN : N = Int32.ofNat n) (l0 : 0 < n) (l2 : n ≤ 4000) (hp : ∀ c ∈ cs, ¬ c < 0 ∧ ¬ (255 : Int32) < c) (hb : bs = cs.map (fun c => c.toInt8.toInt32)) (hfr : 4 ≤ R.frames) (hlo : W + 65 ≤ R.locals) :
    Back l R p e below s args (⟨"java/lang/String", "<init>", "([C)V"⟩ : MethodName) len W (fun P a => a = #[.ref x, .ref b] ∧ P.U.heap = h ∧ P.cells + 1 ≤ R.cells ∧ P.slots + n ≤ R.slots)
      (fun P _ v B => ∃ L, QV Z x N bs h n0 v B.U.heap L ∧ B.locs = P.locs ++ L ∧ B.cells = P.cells + 1 ∧ B.slots = P.slots + n) := by
  subst hn hN hb
  refine Back.mono (backArv hZ hw wi E V C K S hz (n32 (by omega)) l0 (by omega) (fun c hc => (hp c hc).2) hfr hlo) (fun P a hp => hp) (fun P a v B hp hq => ?_)
  obtain ⟨L, ⟨q1, q2, q3, q4, q5, q6, q7, ⟨kb, v1, v2⟩, q9⟩, hl, hc, hs⟩ := hq
  exact ⟨L, ⟨q1, fun y hy => by rw [q2 y hy]; exact hx0, q3, q5, q7, h.size, kb, hh0, Nat.le_refl _, Nat.ne_of_gt E.lt, q6, by rw [List.map_map]; exact v2⟩, hl, hc, hs⟩
end StrChars.Road
namespace StrChars
open Jvm Sem ClassFile Op Lib Jvm.Stand Jvm.Free.XT Jvm.Free.ALB Jvm.Free.JM Jvm.Free
open Jvm.Lib.Cold (StaticIs)
def hi8 (x : Int32) : Int32 := lo8 (x >>> ((8 : Int32) &&& 31))
theorem shr0 (c : Int32) : c >>> ((0 : Int32) &&& 31) = c := by
  have e : ((0 : Int32) &&& 31) = 0 := by decide
  rw [e]
  apply Int32.toBitVec_inj.mp
  rw [Int32.toBitVec_shiftRight]
  have e1 : ((0 : Int32).toBitVec.smod 32) = 0#32 := by decide
  rw [e1, BitVec.sshiftRight_eq']
  exact BitVec.sshiftRight_zero
end StrChars
namespace StrChars
open Jvm Sem ClassFile Op Lib Jvm.Stand Jvm.Free.XT Jvm.Free.ALB Jvm.Free.JM Jvm.Free
open Jvm.Lib.Cold (StaticIs)
theorem shr1 {n : Nat} (h : 2 * n < 2 ^ 31) : Int32.ofNat (2 * n) >>> ((1 : Int32) &&& 31) = Int32.ofNat n := by
  have e : ((1 : Int32) &&& 31) = 1 := by decide
  rw [e]
  apply Int32.toBitVec_inj.mp
  rw [Int32.toBitVec_shiftRight]
  have e1 : ((1 : Int32).toBitVec.smod 32) = 1#32 := by decide
  have hm : (BitVec.ofNat 32 (2 * n)).toNat = 2 * n := by rw [BitVec.toNat_ofNat, Nat.mod_eq_of_lt (by omega)]
  rw [e1, BitVec.sshiftRight_eq']
  apply BitVec.eq_of_toNat_eq
  show ((BitVec.ofNat 32 (2 * n)).sshiftRight 1).toNat = (BitVec.ofNat 32 n).toNat
  rw [BitVec.toNat_sshiftRight_of_msb_false (by rw [BitVec.msb_eq_false_iff_two_mul_lt, hm]; omega), hm, BitVec.toNat_ofNat, Nat.shiftRight_eq_div_pow]
  omega
/-- the array's cell V codes the n chars f 0 .. f (n - 1) by the coder cd, as the JDK does: coder 1 just where some char is above 255 -/
def Cod (cd : Int32) (n : Nat) (f : Nat → Int32) (V : Cell) : Prop := (cd = 0 ∧ V.slots.size = n ∧ ∀ j, j < n → V.slots[j]? = some (.int (lo8 (f j))) ∧ ¬ 255 < f j) ∨ (cd = 1 ∧ V.slots.size = 2 * n ∧ (∀ j, j < n → V.slots[2 * j]? = some (.int (lo8 (f j))) ∧ V.slots[2 * j + 1]? = some (.int (hi8 (f j)))) ∧ ∃ j, j < n ∧ 255 < f j)
theorem Cod.cd {cd : Int32} {n : Nat} {f : Nat → Int32} {V : Cell} (h : Cod cd n f V) : cd = 0 ∨ cd = 1 := h.imp (fun q => q.1) fun q => q.1
theorem Cod.len {cd : Int32} {n : Nat} {f : Nat → Int32} {V : Cell} (h : Cod cd n f V) (hs : V.slots.size < 2 ^ 31) : Int32.ofNat V.slots.size >>> (cd &&& 31) = Int32.ofNat n := by
  rcases h with ⟨rfl, h, -⟩ | ⟨rfl, h, -⟩
  · rw [shr0, h]
  · rw [h, shr1 (by omega)]
/-- **x is a String of the n chars f 0 .. f (n - 1)**, Latin-1 or UTF-16; its array at t has the cell V -/
def Txt (x t : Addr) (V : Cell) (cd : Int32) (n : Nat) (f : Nat → Int32) (U : State) : Prop := Exact "java/lang/String" x U ∧ Has x "java/lang/String" "value" "[B" (.ref t) U ∧ Has x "java/lang/String" "coder" "B" (.int cd) U ∧ XT.Arr .byte t V U ∧ Cod cd n f V ∧ ∀ j, j < n → ¬ f j < 0 ∧ ¬ 65535 < f j
theorem Txt.mv {x t : Addr} {V : Cell} {cd : Int32} {n : Nat} {f : Nat → Int32} {U U' : State} (h : Txt x t V cd n f U) (hal : U.vm.Alike U'.vm) (hh : U'.heap = U.heap) : Txt x t V cd n f U' := ⟨h.1.mv hal hh, h.2.1.mv hal hh, h.2.2.1.mv hal hh, h.2.2.2.1.mv hal hh, h.2.2.2.2⟩
namespace Cdr
def yN : MethodName := ⟨"java/lang/String", "coder", "()B"⟩
abbrev yB : ByteArray := jdk_42_method_152_code
theorem d0 : decode yB 0 = .ok (.getstatic 38, 3) := by decide +kernel
theorem d3 : decode yB 3 = .ok (.ifCond (.eq) 10, 3) := by decide +kernel
theorem d6 : decode yB 6 = .ok (.aload_n 0, 1) := by decide +kernel
theorem d7 : decode yB 7 = .ok (.getfield 15, 3) := by decide +kernel
theorem d10 : decode yB 10 = .ok (.goto 4, 3) := by decide +kernel
theorem d14 : decode yB 14 = .ok (.ireturn, 1) := by decide +kernel
def site : List Cond := [.fieldLink "java/lang/String" 38 "java/lang/String" "COMPACT_STRINGS" "Z", .fieldLink "java/lang/String" 15 "java/lang/String" "coder" "B"]
def tab : Cond := tabOf yN yB 1 (some .byte) site
def P (x : Addr) (cd z : Int32) (args : Array Value) (s : State) : Prop := args = #[.ref x] ∧ Has x "java/lang/String" "coder" "B" (.int cd) s ∧ (cd = 0 ∨ cd = 1) ∧ StaticIs s "java/lang/String" "COMPACT_STRINGS" "Z" (.int z) ∧ ¬ z = 0
def E (cd : Int32) (r : Option Value) (s u : State) : Prop := XT.PureE (some (.int cd)) r s u
theorem law (l : Launch) (x : Addr) (cd z : Int32) : Law l yN 1 0 0 0 yB 1 (some .byte) site (P x cd z) (E cd) [] 0 0 := by
  refine Law.of_walk (plainFor_of_name (by decide +kernel)) (by decide +kernel) (by decide +kernel) (by decide) (fun _ _ h => by rw [h.1]; rfl) (fun _ U U' hal hh h => ⟨h.1, h.2.1.mv hal hh, h.2.2.1, h.2.2.2.1.there hal hh, h.2.2.2.2⟩) (fun r U U' V V' h1 hal h2 h => XT.PureE.mv r U U' V V' h1 hal h2 h) ?_
  intro p e s m args below meth c s₁ X0 hexec hbytes hml hret hlk hnm hown hh0 W hP
  obtain ⟨rfl, hx, hc, s1, hz⟩ := hP
  have c1 : Steps p.tables e below (s₁.setTop (entryFrame m #[.ref x] 1)) (s₁.setTop (mkF m 0 #[.val (.ref x)] [])) := entry rfl
  obtain ⟨T2, X2, q2, st2⟩ := X0.sget hexec hown (wk W (.fieldLink "java/lang/String" 38 "java/lang/String" "COMPACT_STRINGS" "Z")) s1 (fun _ _ h => by rw [hh0]; exact h) (g := (mkF m 0 #[.val (.ref x)] [])) rfl (hb hbytes d0)
  have hh2 := q2.trans hh0
  have c3 : Steps p.tables e below (s₁.setTop (entryFrame m #[.ref x] 1)) (T2.setTop (mkF m 7 #[.val (.ref x)] [.ref x])) := (c1.trans (st2 _ (Steps.refl _))).trans (by
    refine XS.ifNo X2.here hexec rfl (hb hbytes d3) rfl (i0_eq_f hz) ?_
    refine XS.aloadN X2.here hexec rfl (hb hbytes d6) rfl rfl ?_
    exact Steps.refl _)
  obtain ⟨T4, X4, q4, st4⟩ := X2.hget hexec hown (wk W (.fieldLink "java/lang/String" 15 "java/lang/String" "coder" "B")) (hx.mv X2.warmed.alike hh2) (g := (mkF m 7 #[.val (.ref x)] [.ref x])) rfl (rest := []) rfl (hb hbytes d7)
  have c5 : Steps p.tables e below (s₁.setTop (entryFrame m #[.ref x] 1)) (T4.setTop (mkF m 14 #[.val (.ref x)] [.int cd])) := (c3.trans (st4 _ (Steps.refl _))).trans (by
    refine XS.goto X4.here hexec rfl (pc0 := 10) rfl (hb hbytes d10) (by decide) rfl ?_
    exact Steps.refl _)
  exact ⟨T4, some (.int cd), _, _, _, X4, rfl, rfl, rfl, (fun h => by cases h), ⟨rfl, q4.trans hh2⟩, fun fs hl => c5.trans (X4.ireturnOut hexec hret (by rcases hc with rfl | rfl <;> rfl) (Or.inr (Or.inr (Or.inl rfl))) (hb hbytes d14) hl)⟩
end Cdr
namespace Len
def yN : MethodName := ⟨"java/lang/String", "length", "()I"⟩
abbrev yB : ByteArray := jdk_42_method_54_code
theorem d0 : decode yB 0 = .ok (.aload_n 0, 1) := by decide +kernel
theorem d1 : decode yB 1 = .ok (.getfield 9, 3) := by decide +kernel
theorem d4 : decode yB 4 = .ok (.arraylength, 1) := by decide +kernel
theorem d5 : decode yB 5 = .ok (.aload_n 0, 1) := by decide +kernel
theorem d6 : decode yB 6 = .ok (.invokevirtual 335, 3) := by decide +kernel
theorem d9 : decode yB 9 = .ok (.ishr, 1) := by decide +kernel
theorem d10 : decode yB 10 = .ok (.ireturn, 1) := by decide +kernel
def site : List Cond := [.fieldLink "java/lang/String" 9 "java/lang/String" "value" "[B", Cdr.tab] ++ virtW "java/lang/String" 335 "java/lang/String" Cdr.yN Cdr.yN
def tab : Cond := tabOf yN yB 1 (some .int) site
def P (x t : Addr) (V : Cell) (cd : Int32) (n : Nat) (f : Nat → Int32) (z : Int32) (args : Array Value) (s : State) : Prop := args = #[.ref x] ∧ Txt x t V cd n f s ∧ StaticIs s "java/lang/String" "COMPACT_STRINGS" "Z" (.int z) ∧ ¬ z = 0
def E (n : Nat) (r : Option Value) (s u : State) : Prop := XT.PureE (some (.int (Int32.ofNat n))) r s u
/-- length() of a String of n chars, in either coding -/
theorem law (l : Launch) (x t : Addr) (V : Cell) (cd : Int32) (n : Nat) (f : Nat → Int32) (z : Int32) : Law l yN 1 0 1 13 yB 1 (some .int) site (P x t V cd n f z) (E n) [] 0 0 := by
  refine Law.of_walk (plainFor_of_name (by decide +kernel)) (by decide +kernel) (by decide +kernel) (by decide) (fun _ _ h => by rw [h.1]; rfl) (fun _ U U' hal hh h => ⟨h.1, h.2.1.mv hal hh, h.2.2.1.there hal hh, h.2.2.2⟩) (fun r U U' V V' h1 hal h2 h => XT.PureE.mv r U U' V V' h1 hal h2 h) ?_
  intro p e s m args below meth c s₁ X0 hexec hbytes hml hret hlk hnm hown hh0 W hP
  obtain ⟨rfl, hx, s1, hz⟩ := hP
  have v31 := hx.2.2.2.1.2.2.2
  have c1 : Steps p.tables e below (s₁.setTop (entryFrame m #[.ref x] 1)) (s₁.setTop (mkF m 1 #[.val (.ref x)] [.ref x])) := Steps.trans (entry rfl) (by
    show Steps p.tables e below (s₁.setTop (mkF m 0 #[.val (.ref x)] [])) _
    refine XS.aloadN X0.here hexec rfl (hb hbytes d0) rfl rfl ?_
    exact Steps.refl _)
  obtain ⟨T2, X2, q2, st2⟩ := X0.hget hexec hown (wk W (.fieldLink "java/lang/String" 9 "java/lang/String" "value" "[B")) (hx.mv X0.warmed.alike hh0).2.1 (g := (mkF m 1 #[.val (.ref x)] [.ref x])) rfl (rest := []) rfl (hb hbytes d1)
  have hh2 := q2.trans hh0
  have hx2 := hx.mv X2.warmed.alike hh2
  have c3 : Steps p.tables e below (s₁.setTop (entryFrame m #[.ref x] 1)) (T2.setTop (mkF m 6 #[.val (.ref x)] [.ref x, .int (Int32.ofNat V.slots.size)])) := (c1.trans (st2 _ (Steps.refl _))).trans (by
    refine X2.alen hexec hx2.2.2.2.1 rfl rfl (hb hbytes d4) ?_
    refine XS.aloadN X2.here hexec rfl (hb hbytes d5) rfl rfl ?_
    exact Steps.refl _)
  obtain ⟨v4, T4, X4, E4, g4⟩ := X2.callV hexec (Cdr.law l x cd z) hown (wks W (virtW "java/lang/String" 335 "java/lang/String" Cdr.yN Cdr.yN)) rfl (by decide) (wk W Cdr.tab) (W := 1) (Nat.le_of_ble_eq_true rfl) (Nat.le_of_ble_eq_true rfl) (Nat.le_refl _) (Nat.le_refl _) (hx2.1.fc X2.warmed.alike) hx2.1.is (g := (mkF m 6 #[.val (.ref x)] [.ref x, .int (Int32.ofNat V.slots.size)])) rfl (by rw [hml]; rfl) c3 (argsL := []) (rest := [.int (Int32.ofNat V.slots.size)]) rfl rfl (by show 2 * 0 + (1 + 0) ≤ _; decide) (hb hbytes d6) (⟨rfl, hx2.2.2.1, hx.2.2.2.2.1.cd, s1.there X2.warmed.alike hh2, hz⟩)
  obtain ⟨rfl, q4⟩ := E4
  have c5 : Steps p.tables e below (s₁.setTop (entryFrame m #[.ref x] 1)) (T4.setTop (mkF m 10 #[.val (.ref x)] [.int (Int32.ofNat V.slots.size >>> (cd &&& 31))])) := Steps.trans g4 (by
    refine ishr X4.here hexec rfl (hb hbytes d9) rfl ?_
    exact Steps.refl _)
  rw [hx.2.2.2.2.1.len v31] at c5
  exact ⟨T4, some (.int (Int32.ofNat n)), _, _, _, X4, rfl, rfl, rfl, (fun h => by cases h), ⟨rfl, q4.trans hh2⟩, fun fs hl => c5.trans (X4.ireturnOut hexec hret rfl (Or.inl rfl) (hb hbytes d10) hl)⟩
theorem pays {l : Launch} {R : Room} {p : Program} {e : Env} {below : List Frame} {s : State} {sargs : Array Value} {len W : Nat} (x t : Addr) (V : Cell) (cd : Int32) (n : Nat) (f : Nat → Int32) (z : Int32) (htab : tab.before sargs s = true) (hfr : 2 ≤ R.frames) (hlo : W + 25 ≤ R.locals) :
    Back l R p e below s sargs yN len W (fun A₁ a₁ => A₁.cells + 0 ≤ R.cells ∧ A₁.slots + 0 ≤ R.slots ∧ P x t V cd n f z a₁ A₁.U) (fun A₁ _ v₁ B₁ => E n v₁ A₁.U B₁.U ∧ B₁.locs = A₁.locs ++ [] ∧ B₁.cells = A₁.cells + 0 ∧ B₁.slots = A₁.slots + 0) :=
  (law l x t V cd n f z).pays htab hfr (by omega)
end Len
end StrChars
namespace StrChars.Road
open Jvm Sem ClassFile Op Lib Jvm.Stand Jvm.Free Jvm.Free.XT
open Jvm.Lib.Cold (StaticIs)
theorem consq {a : Array Value} {s : State} {c : Jvm.Cond} {L : List Jvm.Cond} (h0 : c.before a s = true) (h : ∀ w ∈ L, w.before a s = true) : ∀ w ∈ c :: L, w.before a s = true := fun w hw => (List.mem_cons.mp hw).elim (fun e => e ▸ h0) (h w)
/-- the words of String.length(), either coding -/
abbrev wordsLen : List Jvm.Cond := [.code Len.yN Len.yB 1 (some .int), .initialized ST, .fieldLink ST 9 ST "value" "[B", .fieldLink ST 38 ST "COMPACT_STRINGS" "Z", .fieldLink ST 15 ST "coder" "B", .code Cdr.yN Cdr.yB 1 (some .byte), .methodLink ST 335 Cdr.yN, .declares Cdr.yN, .selects ST Cdr.yN Cdr.yN, .instanceMethod Cdr.yN]
theorem tabLen_of {a : Array Value} {s : State} (h : ∀ w ∈ wordsLen, w.before a s = true) : Len.tab.before a s = true := by
  have hc : Cdr.tab.before a s = true := unparts (wk h (.code Cdr.yN Cdr.yB 1 (some .byte))) (wks h (.initialized Cdr.yN.cls :: Cdr.site))
  have q := consq hc h
  exact unparts (wk q (.code Len.yN Len.yB 1 (some .int))) (wks q (.initialized Len.yN.cls :: Len.site))
theorem movedLen {Z s : State} {a0 args : Array Value} (hZ : Z.Warmed39 s.vm) (hw : ∀ d ∈ wordsLen, d.before a0 Z = true) : ∀ d ∈ wordsLen, d.before args s = true := fun d hd => by
  have q := hw d hd
  have t : ∀ d ∈ wordsLen, d = .arrayClass .byte ∨ (d.onTables && d.keepsFace) = true := by decide +kernel
  rcases t d hd with rfl | t
  · exact RoadKit.mvA hZ q
  · exact RoadKit.mv hZ q t
/-- the bytes of the chars cs, low before high -/
def wideBytes : List Int32 → List Value
  | [] => []
  | c :: cs => .int (lo8 c) :: .int (hi8 c) :: wideBytes cs
theorem wide_lo (d : Value) : ∀ (cs : List Int32) (j : Nat), j < cs.length → (wideBytes cs).getD (2 * j) d = .int (lo8 (cs.getD j 0))
  | [], j, h => absurd h (Nat.not_lt_zero j)
  | c :: cs, 0, _ => rfl
  | c :: cs, j + 1, h => by
    have q := wide_lo d cs j (by simpa using h)
    rw [show 2 * (j + 1) = 2 * j + 1 + 1 from by omega]
    simpa [wideBytes] using q
theorem wide_hi (d : Value) : ∀ (cs : List Int32) (j : Nat), j < cs.length → (wideBytes cs).getD (2 * j + 1) d = .int (hi8 (cs.getD j 0))
  | [], j, h => absurd h (Nat.not_lt_zero j)
  | c :: cs, 0, _ => rfl
  | c :: cs, j + 1, h => by
    have q := wide_hi d cs j (by simpa using h)
    rw [show 2 * (j + 1) + 1 = 2 * j + 1 + 1 + 1 from by omega]
    simpa [wideBytes] using q
theorem low_at (d : Value) (cs : List Int32) (j : Nat) (h : j < cs.length) : (cs.map fun c => Value.int (lo8 c)).getD j d = .int (lo8 (cs.getD j 0)) := by
  simp [List.getD_eq_getElem?_getD, h]
/-- an array of N2 bytes vs codes the chars cs by the coder cd -/
def CodA (cs : List Int32) (cd N2 : Int32) (vs : List Value) : Prop := (cd = 0 ∧ N2 = Int32.ofNat cs.length ∧ vs = (cs.map fun c => Value.int (lo8 c)) ∧ ∀ c ∈ cs, ¬ 255 < c) ∨ (cd = 1 ∧ N2 = Int32.ofNat (2 * cs.length) ∧ vs = wideBytes cs ∧ ∃ c ∈ cs, 255 < c)
theorem CodA.cod {cs : List Int32} {cd N2 : Int32} {vs : List Value} {V : Cell} (h : CodA cs cd N2 vs) (hn : 2 * cs.length < 2 ^ 31) (hs : V.slots.size = N2.toNatClampNeg) (hv : RoadKit.Has V vs (.int 0)) : Cod cd cs.length (fun j => cs.getD j 0) V := by
  rcases h with ⟨rfl, rfl, rfl, h⟩ | ⟨rfl, rfl, rfl, c, hc, hw⟩
  · rw [n32 (by omega)] at hs
    exact Or.inl ⟨rfl, hs, fun j hj => ⟨by rw [hv j (by omega), low_at _ _ _ hj], by
      have e : cs.getD j 0 = cs[j] := by simp [List.getD_eq_getElem?_getD, hj]
      show ¬ 255 < cs.getD j 0
      rw [e]; exact h _ (List.getElem_mem _)⟩⟩
  · rw [n32 (by omega)] at hs
    obtain ⟨j, hj, rfl⟩ := List.getElem_of_mem hc
    exact Or.inr ⟨rfl, hs, fun j hj => ⟨by rw [hv _ (by omega), wide_lo _ _ _ hj], by rw [hv _ (by omega), wide_hi _ _ _ hj]⟩, j, hj, by
      have e : cs.getD j 0 = cs[j] := by simp [List.getD_eq_getElem?_getD, hj]
      show 255 < cs.getD j 0
      rw [e]; exact hw⟩
/-- an object of exactly java/lang/String, its two fields found: as the laws ask it -/
theorem strObj {Z U : State} {a0 : Array Value} {kI : Nat} (wi : (Jvm.Cond.instantiable ST kI).before a0 Z = true) (al : Z.vm.Alike U.vm) {x : Addr} {v0 c0 : Value} (E : RoadKit.Exa Z U.heap x ST) (V : RoadKit.Fld Z U.heap x ST "value" "[B" v0) (C : RoadKit.Fld Z U.heap x ST "coder" "B" c0) :
    ∃ (D : Cell) (fV fC : Field), Blank ST x D U ∧ Found ST "value" "[B" fV U ∧ Found ST "coder" "B" fC U ∧ D.slots[fV.slot]? = some v0 ∧ D.slots[fC.slot]? = some c0 ∧ RoadKit.slotOf Z ST "value" "[B" = fV.slot ∧ RoadKit.slotOf Z ST "coder" "B" = fC.slot := by
  obtain ⟨D, cfV, kV, iV, fV, hD, gV, stV, knV, obV, asV, slV⟩ := V
  obtain ⟨D', cfC, kC, iC, fC, hD', gC, stC, -, -, asC, slC⟩ := C
  cases hD.symm.trans hD'
  obtain ⟨D2, kD, e1, e2, e3, e4, e5⟩ := E
  cases hD.symm.trans e1
  obtain ⟨c2, k2, i1, i2, i3, -⟩ := Cond.instantiable_spec wi
  cases e2.symm.trans i1
  cases e3.symm.trans i2
  obtain ⟨kU, u1, u2⟩ := al.2.2 _ _ e3
  exact ⟨D, fV, fC, ⟨hD, ⟨knV, fun q hq => by rw [hq] at obV; cases obV⟩, by rw [al.findClass]; exact e2, kU, u1, by rw [u2]; exact i3, by rw [u2]; exact e5 i3⟩, ⟨SBG.found_only al ⟨cfV, kV, iV, gV⟩, stV⟩, ⟨SBG.found_only al ⟨cfC, kC, iC, gC⟩, stC⟩, slV, slC, by simp [RoadKit.slotOf, gV], by simp [RoadKit.slotOf, gC]⟩
theorem sta_is {Z U : State} (al : Z.vm.Alike U.vm) {C n d : String} {v : Value} (S : RoadKit.Sta Z U.heap C n d v) : StaticIs U C n d v := by
  obtain ⟨cfS, iS, kS, fS, st, cS, t1, t2, t3, t4, t5, t6, t7⟩ := S
  exact StaticIs.there (s := { Z with heap := U.heap }) ⟨cfS, iS, kS, fS, st, cS, t1, t2, t3, t4, t5, (fun q => by rw [q] at t6; cases t6), t7⟩ al rfl
/-- **length() OF SUCH A STRING** -/
theorem lenW {p : Program} {l : Launch} {e : Env} {R : Room} {s : State} {args : Array Value} {below : List Frame} {len W : Nat} {Z : State} {a0 : Array Value} {h : Heap} (hZ : Z.Warmed39 s.vm) (hw : ∀ d ∈ wordsLen, d.before a0 Z = true) {kI : Nat} (wi : (Jvm.Cond.instantiable ST kI).before a0 Z = true)
    {x t : Addr} {kb : ClassId} {cs : List Int32} {cd N2 z : Int32} {vs : List Value} (E : RoadKit.Exa Z h x ST) (V : RoadKit.Fld Z h x ST "value" "[B" (.ref t)) (C : RoadKit.Fld Z h x ST "coder" "B" (.int cd)) (K : RoadKit.Arv Z h t kb .byte N2 vs (.int 0)) (hc : CodA cs cd N2 vs) (hb : ∀ c ∈ cs, ¬ c < 0 ∧ ¬ (65535 : Int32) < c)
    (S : RoadKit.Sta Z h ST "COMPACT_STRINGS" "Z" (.int z)) (hz : ¬ z = 0) (l2 : cs.length ≤ 4000) (hfr : 2 ≤ R.frames) (hlo : W + 25 ≤ R.locals) :
    Back l R p e below s args (⟨"java/lang/String", "length", "()I"⟩ : MethodName) len W (fun P a => a = #[.ref x] ∧ P.U.heap = h ∧ P.cells + 0 ≤ R.cells ∧ P.slots + 0 ≤ R.slots)
      (fun P _ v B => ∃ L, (v = some (.int (Int32.ofNat cs.length)) ∧ L = [] ∧ B.U.heap = h) ∧ B.locs = P.locs ++ L ∧ B.cells = P.cells + 0 ∧ B.slots = P.slots + 0) := by
  obtain ⟨A, K1, K2, K3, K4, K5, K6⟩ := K
  have hcod := hc.cod (by omega) K3 K5
  intro m meth c P g ig mk a X hg hsize hdg hW hn hp'
  obtain ⟨rfl, rfl, r1, r2⟩ := hp'
  have al : Z.vm.Alike P.U.vm := hZ.alike.trans X.warmed.alike
  obtain ⟨D, fV, fC, hB, F1, F2, g1, g2, -, -⟩ := strObj wi al E V C
  have hx : Txt x t A cd cs.length (fun j => cs.getD j 0) P.U := ⟨⟨_, hB.2.2.1, D, hB.1, rfl, by cases q : D.vm <;> first | rfl | exact absurd q (hB.2.1.2 _)⟩, Has.of hB F1 g1, Has.of hB F2 g2, ⟨K1.1, State.isArrayOf_alike al K1.2.1, K1.2.2, by rcases hcod with ⟨-, q, -⟩ | ⟨-, q, -⟩ <;> omega⟩, hcod, fun j hj => by
    have e : cs.getD j 0 = cs[j] := by simp [List.getD_eq_getElem?_getD, hj]
    show ¬ cs.getD j 0 < 0 ∧ ¬ 65535 < cs.getD j 0
    rw [e]; exact hb _ (List.getElem_mem _)⟩
  obtain ⟨v, B, X', ⟨⟨hv, hh⟩, hl, hk, hs⟩, st⟩ := Len.pays x t A cd cs.length (fun j => cs.getD j 0) z (tabLen_of (movedLen hZ hw)) hfr hlo m meth c P g ig mk _ X hg hsize hdg hW hn ⟨r1, r2, rfl, hx, sta_is al S, hz⟩
  exact ⟨v, B, X', ⟨[], ⟨hv, rfl, hh⟩, hl, hk, hs⟩, st⟩
end StrChars.Road
namespace StrChars.Road
open Jvm Sem ClassFile Op Lib Jvm.Stand Jvm.Free Jvm.Free.XT
open Jvm.Lib.Cold (StaticIs)
/-- what backV says of its String, as the contracts of this text ask it: cs's low bytes, coder 0 -/
theorem codOf {cs : List Int32} {n : Nat} (hn : cs.length = n) (hb : ∀ c ∈ cs, ¬ 255 < c) : CodA cs 0 (Int32.ofNat n) ((cs.map lo8).map Value.int) := Or.inl ⟨rfl, by rw [hn], by simp [List.map_map, Function.comp_def], hb⟩
end StrChars.Road
end Jvm.Pilot.@@N@@
namespace Jvm.Pilot.@@N@@
open Jvm Jvm.ClassFile Sem Op Lib Jvm.Free Jvm.Stand Jvm.LawKit Jvm.RoadKit Bundle Jvm.Pilot.@@N@@.Jvm.D
section OwnKit
variable {Z : State} {EL : List (String × Nat)} {a0 : Array Value} {n0 : Nat} {h0 : Heap} {ws : List Addr} {own : String} {bytes : ByteArray} {mx : Nat} {p : Program} {l : Launch} {e : Env} {R : Room} {s : State} {m : MethodId} {args : Array Value} {below : List Frame} {meth : Method} {c : Code} {sv : List Addr} {T : State} {h : Heap} {k n : Nat} {P : Outcome → State → Prop} {pc : Nat} {Ls : Array Slot} {st : List Value}
def OGo (tb : Tables) (e : Env) (below : List Frame) (P : Outcome → State → Prop) (T : State) (g : JFrame) : Prop := ∃ (t : State) (o : Outcome), Steps tb e below (T.setTop g) t ∧ t.status = .running ∧ Ended t below o ∧ P o t
theorem og {tb : Tables} {T' : State} {g g' : JFrame} (st : ∀ t, Steps tb e below (T'.setTop g') t → Steps tb e below (T.setTop g) t) (K : OGo tb e below P T' g') : OGo tb e below P T g := by
  obtain ⟨t, o, h1, h2⟩ := K
  exact ⟨t, o, st t h1, h2⟩
def OEnd (Z : State) (EL : List (String × Nat)) (n0 : Nat) (h0 : Heap) (ws : List Addr) (s : State) (Q : Option Value → Heap → Prop) (k n : Nat) (o : Outcome) (t : State) : Prop :=
  ∃ v L, o = .returned v ∧ (Fr n0 L ∧ Keep h0 t.heap ws ∧ Q v t.heap) ∧ CHr Z EL s.vm s.heap t.vm t.heap ∧ ReturnedEndW s o t L k n ∧ (EL = [] → FrameEnd s o t L k n)
def OIn (Z : State) (EL : List (String × Nat)) (a0 : Array Value) (n0 : Nat) (h0 : Heap) (ws : List Addr) (own : String) (s : State) (m : MethodId) (sv : List Addr) (vm0 : Vm) (locs : List Loc) (h : Heap) : Prop :=
  s.heap = h0 ∧ Old Z n0 h ∧ Keep h0 h ws ∧ (∃ k0, s.Since vm0 k0 ∧ k0 ≤ h.size) ∧ Z.Warmed39 vm0 ∧ vm0.findClass own = some m.cls ∧ EW Z a0 EL ∧ CHr Z EL s.vm s.heap vm0 h ∧ (EL = [] → vm0 = s.vm) ∧ Fr n0 locs ∧ ∀ x ∈ sv, n0 ≤ x ∧ x < h.size ∧ (x ∈ ws ∨ h0.size ≤ x) ∧ Safe Z EL vm0 h x
def OSt (Z : State) (EL : List (String × Nat)) (a0 : Array Value) (n0 : Nat) (h0 : Heap) (ws : List Addr) (own : String) (bytes : ByteArray) (mx : Nat) (p : Program) (l : Launch) (e : Env) (R : Room) (s : State) (m : MethodId) (args : Array Value) (below : List Frame) (meth : Method) (c : Code) (sv : List Addr) (T : State) (h : Heap) (k n : Nat) : Prop :=
  p.tables.exec = Jvm.exec ∧ c.code = bytes ∧ c.maxLocals = mx ∧ T.heap = h ∧ meth.locks = false ∧ ∃ (vm0 : Vm) (locs : List Loc), Stand p l e R (s.setVm vm0) m args below meth c T locs k n ∧ OIn Z EL a0 n0 h0 ws own s m sv vm0 locs h
theorem OSt.here (X : OSt Z EL a0 n0 h0 ws own bytes mx p l e R s m args below meth c sv T h k n) : At T m c below := by obtain ⟨-, -, -, -, -, _, _, Y, -⟩ := X; exact Y.here
theorem OSt.hx (X : OSt Z EL a0 n0 h0 ws own bytes mx p l e R s m args below meth c sv T h k n) : p.tables.exec = Jvm.exec := X.1
theorem OSt.hd (X : OSt Z EL a0 n0 h0 ws own bytes mx p l e R s m args below meth c sv T h k n) {r : Except ClassFile.DecodeError (ClassFile.Instr × Nat)} (hd : decode bytes pc = r) : decode c.code pc = r := hb X.2.1 hd
theorem OSt.old (X : OSt Z EL a0 n0 h0 ws own bytes mx p l e R s m args below meth c sv T h k n) : Old Z n0 h := by obtain ⟨-, -, -, -, -, _, _, -, -, I, -⟩ := X; exact I
theorem OSt.kept (X : OSt Z EL a0 n0 h0 ws own bytes mx p l e R s m args below meth c sv T h k n) : Keep h0 h ws := by obtain ⟨-, -, -, -, -, _, _, -, -, -, I, -⟩ := X; exact I
theorem OSt.more (X : OSt Z EL a0 n0 h0 ws own bytes mx p l e R s m args below meth c sv T h k n) {k' n' : Nat} (hk : k ≤ k') (hn : n ≤ n') : OSt Z EL a0 n0 h0 ws own bytes mx p l e R s m args below meth c sv T h k' n' := by
  obtain ⟨a1, a2, a3, a4, a5, vm0, locs, Y, I⟩ := X
  exact ⟨a1, a2, a3, a4, a5, vm0, locs, Y.more hk hn, I⟩
theorem OSt.less (X : OSt Z EL a0 n0 h0 ws own bytes mx p l e R s m args below meth c sv T h k n) {sv' : List Addr} (q : ∀ x ∈ sv', x ∈ sv) : OSt Z EL a0 n0 h0 ws own bytes mx p l e R s m args below meth c sv' T h k n := by
  obtain ⟨a1, a2, a3, a4, a5, vm0, locs, Y, b1, b2, b3, b4, b5, b6, b7, b8, b9, b10, b11⟩ := X
  exact ⟨a1, a2, a3, a4, a5, vm0, locs, Y, b1, b2, b3, b4, b5, b6, b7, b8, b9, b10, fun x hx => b11 x (q x hx)⟩
theorem OIn.ext {vm0 : Vm} {locs : List Loc} {h' : Heap} (I : OIn Z EL a0 n0 h0 ws own s m sv vm0 locs h) (E : Ext h h') : OIn Z EL a0 n0 h0 ws own s m sv vm0 locs h' := by
  obtain ⟨b1, b2, b3, ⟨k0, b4, b4'⟩, b5, b6, b7, b8, b9, b10, b11⟩ := I
  exact ⟨b1, b2.ext E, b3.ext E, ⟨k0, b4, Nat.le_trans b4' E.1⟩, b5, b6, b7, b8.trans (CHr.ext E b8.1), b9, b10, fun x hx => let q := b11 x hx; ⟨q.1, Nat.lt_of_lt_of_le q.2.1 E.1, q.2.2.1, Safe.ext E b8.1 q.2.2.2⟩⟩
theorem OIn.new {vm0 : Vm} {locs : List Loc} {h' : Heap} (I : OIn Z EL a0 n0 h0 ws own s m sv vm0 locs h) (E : Ext h h') {b : Addr} (h1 : h.size ≤ b) (h2 : b < h'.size) : OIn Z EL a0 n0 h0 ws own s m (b :: sv) vm0 locs h' := by
  have I' := I.ext E
  obtain ⟨b1, b2, b3, -, -, -, -, b8, -⟩ := I
  obtain ⟨c1, c2, c3, c4, c5, c6, c7, c8, c9, c10, c11⟩ := I'
  refine ⟨c1, c2, c3, c4, c5, c6, c7, c8, c9, c10, fun x hx => ?_⟩
  rcases List.mem_cons.mp hx with rfl | hx
  · exact ⟨Nat.le_trans (Nat.le_of_eq b2.1.symm) (Nat.le_trans b2.2.1 h1), h2, Or.inr (Nat.le_trans b3.1 h1), Safe.ext E b8.1 (Safe.new h1)⟩
  · exact c11 x hx
theorem OIn.wr {vm0 : Vm} {locs : List Loc} {h' : Heap} (I : OIn Z EL a0 n0 h0 ws own s m sv vm0 locs h) {a : Addr} {sl : Nat} {v : Value} (ha : a ∈ sv) (W : Wr h h' a sl v) : OIn Z EL a0 n0 h0 ws own s m sv vm0 (locs ++ [⟨a, sl⟩]) h' := by
  obtain ⟨b1, b2, b3, ⟨k0, b4, b4'⟩, b5, b6, b7, b8, b9, b10, b11⟩ := I
  obtain ⟨q1, q2, q3, q4⟩ := b11 a ha
  refine ⟨b1, b2.wr W q1, b3.wr W q3, ⟨k0, b4, by rw [W.size]; exact b4'⟩, b5, b6, b7, b8.trans (CHr.wr W q4 b8.1), b9, b10.app fun y hy => ?_, fun x hx => let r := b11 x hx; ⟨r.1, by rw [W.size]; exact r.2.1, r.2.2.1, Safe.wr W q4 b8.1 r.2.2.2⟩⟩
  cases List.mem_singleton.mp hy; exact q1
theorem OIn.keep {vm0 : Vm} {locs : List Loc} {h' : Heap} (I : OIn Z EL a0 n0 h0 ws own s m sv vm0 locs h) {ws' : List Addr} {L : List Loc} (K : Keep h h' ws') (hs : ∀ x ∈ ws', x ∈ sv) (N : Fr n0 L) : OIn Z EL a0 n0 h0 ws own s m sv vm0 (locs ++ L) h' := by
  obtain ⟨b1, b2, b3, ⟨k0, b4, b4'⟩, b5, b6, b7, b8, b9, b10, b11⟩ := I
  have sf : ∀ x ∈ ws', Safe Z EL vm0 h x := fun x hx => (b11 x (hs x hx)).2.2.2
  exact ⟨b1, b2.keep K fun x hx => (b11 x (hs x hx)).1, b3.trans K fun x hx => (b11 x (hs x hx)).2.2.1, ⟨k0, b4, Nat.le_trans b4' K.1⟩, b5, b6, b7, b8.trans (CHr.keep K sf b8.1), b9, b10.app N, fun x hx => let r := b11 x hx; ⟨r.1, Nat.lt_of_lt_of_le r.2.1 K.1, r.2.2.1, Safe.keep K sf b8.1 r.2.2.2⟩⟩
theorem OIn.call {vm0 : Vm} {locs : List Loc} {h' : Heap} {vm1 : Vm} (I : OIn Z EL a0 n0 h0 ws own s m sv vm0 locs h) {ws' : List Addr} {L : List Loc} (K : Keep h h' ws') (hs : ∀ x ∈ ws', x ∈ sv) (N : Fr n0 L) (C : CHr Z EL vm0 h vm1 h') (S : (s.setVm vm0).Since vm1 h'.size) (hne : EL = [] → vm1 = vm0) : OIn Z EL a0 n0 h0 ws own s m sv vm1 (locs ++ L) h' := by
  obtain ⟨b1, b2, b3, ⟨k0, b4, b4'⟩, b5, b6, b7, b8, b9, b10, b11⟩ := I
  exact ⟨b1, b2.keep K fun x hx => (b11 x (hs x hx)).1, b3.trans K fun x hx => (b11 x (hs x hx)).2.2.1, ⟨_, b4.trans S (Nat.le_trans b4' K.1), Nat.le_refl _⟩, State.Warmed39.trans (t := s.setVm vm0) b5 S.1, by rw [S.1.alike.findClass]; exact b6, b7, b8.trans C, fun q => (hne q).trans (b9 q), b10.app N, fun x hx => let r := b11 x hx; ⟨r.1, Nat.lt_of_lt_of_le r.2.1 K.1, r.2.2.1, C.safe r.2.1 r.2.2.2⟩⟩
theorem og_aload (X : OSt Z EL a0 n0 h0 ws own bytes mx p l e R s m args below meth c sv T h k n) (pc' : Nat) {j : Nat} {v : Value} (hd : decode bytes pc = .ok (.aload j, 2)) (hl : Ls[j]? = some (.val (v))) (hv : v.isRef = true) (hq : pc' = pc + 2) (K : OGo p.tables e below P T (mkF m pc' Ls (v :: st))) : OGo p.tables e below P T (mkF m pc Ls st) := by
  subst hq
  exact og (fun _ q => XS.aload X.here X.hx rfl (X.hd hd) hl hv q) K
theorem og_aloadN (X : OSt Z EL a0 n0 h0 ws own bytes mx p l e R s m args below meth c sv T h k n) (pc' : Nat) {j : Fin 4} {v : Value} (hd : decode bytes pc = .ok (.aload_n j, 1)) (hl : Ls[j.val]? = some (.val (v))) (hv : v.isRef = true) (hq : pc' = pc + 1) (K : OGo p.tables e below P T (mkF m pc' Ls (v :: st))) : OGo p.tables e below P T (mkF m pc Ls st) := by
  subst hq
  exact og (fun _ q => XS.aloadN X.here X.hx rfl (X.hd hd) hl hv q) K
theorem og_iload (X : OSt Z EL a0 n0 h0 ws own bytes mx p l e R s m args below meth c sv T h k n) (pc' : Nat) {j : Nat} {v : Int32} (hd : decode bytes pc = .ok (.iload j, 2)) (hl : Ls[j]? = some (.val (.int v))) (hq : pc' = pc + 2) (K : OGo p.tables e below P T (mkF m pc' Ls (.int v :: st))) : OGo p.tables e below P T (mkF m pc Ls st) := by
  subst hq
  exact og (fun _ q => XS.iload X.here X.hx rfl (X.hd hd) hl q) K
theorem og_iloadN (X : OSt Z EL a0 n0 h0 ws own bytes mx p l e R s m args below meth c sv T h k n) (pc' : Nat) {j : Fin 4} {v : Int32} (hd : decode bytes pc = .ok (.iload_n j, 1)) (hl : Ls[j.val]? = some (.val (.int v))) (hq : pc' = pc + 1) (K : OGo p.tables e below P T (mkF m pc' Ls (.int v :: st))) : OGo p.tables e below P T (mkF m pc Ls st) := by
  subst hq
  exact og (fun _ q => XS.iloadN X.here X.hx rfl (X.hd hd) hl q) K
theorem og_lload (X : OSt Z EL a0 n0 h0 ws own bytes mx p l e R s m args below meth c sv T h k n) (pc' : Nat) {j : Nat} {v : Int64} (hd : decode bytes pc = .ok (.lload j, 2)) (hl : Ls[j]? = some (.val (.long v))) (hq : pc' = pc + 2) (K : OGo p.tables e below P T (mkF m pc' Ls (.long v :: st))) : OGo p.tables e below P T (mkF m pc Ls st) := by
  subst hq
  exact og (fun _ q => XT.lload X.here X.hx rfl (X.hd hd) hl q) K
theorem og_lloadN (X : OSt Z EL a0 n0 h0 ws own bytes mx p l e R s m args below meth c sv T h k n) (pc' : Nat) {j : Fin 4} {v : Int64} (hd : decode bytes pc = .ok (.lload_n j, 1)) (hl : Ls[j.val]? = some (.val (.long v))) (hq : pc' = pc + 1) (K : OGo p.tables e below P T (mkF m pc' Ls (.long v :: st))) : OGo p.tables e below P T (mkF m pc Ls st) := by
  subst hq
  exact og (fun _ q => XT.lloadN X.here X.hx rfl (X.hd hd) hl q) K
theorem og_iconst (X : OSt Z EL a0 n0 h0 ws own bytes mx p l e R s m args below meth c sv T h k n) (pc' : Nat) (v : Int32) {i : Int} (hd : decode bytes pc = .ok (.iconst i, 1)) (hv : Int32.ofInt i = v) (hq : pc' = pc + 1) (K : OGo p.tables e below P T (mkF m pc' Ls (.int v :: st))) : OGo p.tables e below P T (mkF m pc Ls st) := by
  subst hq hv
  exact og (fun _ q => XS.iconst X.here X.hx rfl (X.hd hd) q) K
theorem og_bipush (X : OSt Z EL a0 n0 h0 ws own bytes mx p l e R s m args below meth c sv T h k n) (pc' : Nat) (v : Int32) {i : Int} (hd : decode bytes pc = .ok (.bipush i, 2)) (hv : (Int8.ofInt i).toInt32 = v) (hq : pc' = pc + 2) (K : OGo p.tables e below P T (mkF m pc' Ls (.int v :: st))) : OGo p.tables e below P T (mkF m pc Ls st) := by
  subst hq hv
  exact og (fun _ q => XS.bipush X.here X.hx rfl (X.hd hd) q) K
theorem og_sipush (X : OSt Z EL a0 n0 h0 ws own bytes mx p l e R s m args below meth c sv T h k n) (pc' : Nat) (v : Int32) {i : Int} (hd : decode bytes pc = .ok (.sipush i, 3)) (hv : (Int16.ofInt i).toInt32 = v) (hq : pc' = pc + 3) (K : OGo p.tables e below P T (mkF m pc' Ls (.int v :: st))) : OGo p.tables e below P T (mkF m pc Ls st) := by
  subst hq hv
  exact og (fun _ q => XS.sipush X.here X.hx rfl (X.hd hd) q) K
theorem og_lconst (X : OSt Z EL a0 n0 h0 ws own bytes mx p l e R s m args below meth c sv T h k n) (pc' : Nat) (v : Int64) {i : Fin 2} (hd : decode bytes pc = .ok (.lconst i, 1)) (hv : Int64.ofNat i = v) (hq : pc' = pc + 1) (K : OGo p.tables e below P T (mkF m pc' Ls (.long v :: st))) : OGo p.tables e below P T (mkF m pc Ls st) := by
  subst hq hv
  exact og (fun _ q => XT.lconst X.here X.hx rfl (X.hd hd) q) K
theorem og_aconstNull (X : OSt Z EL a0 n0 h0 ws own bytes mx p l e R s m args below meth c sv T h k n) (pc' : Nat)  (hd : decode bytes pc = .ok (.aconst_null, 1))  (hq : pc' = pc + 1) (K : OGo p.tables e below P T (mkF m pc' Ls (.null :: st))) : OGo p.tables e below P T (mkF m pc Ls st) := by
  subst hq
  exact og (fun _ q => XS.aconstNull X.here X.hx rfl (X.hd hd) q) K
theorem og_iadd (X : OSt Z EL a0 n0 h0 ws own bytes mx p l e R s m args below meth c sv T h k n) (pc' : Nat) {x y : Int32} (hd : decode bytes pc = .ok (.iadd, 1))  (hq : pc' = pc + 1) (K : OGo p.tables e below P T (mkF m pc' Ls (.int (x + y) :: st))) : OGo p.tables e below P T (mkF m pc Ls (.int y :: .int x :: st)) := by
  subst hq
  exact og (fun _ q => XS.iadd X.here X.hx rfl (X.hd hd) rfl q) K
theorem og_isub (X : OSt Z EL a0 n0 h0 ws own bytes mx p l e R s m args below meth c sv T h k n) (pc' : Nat) {x y : Int32} (hd : decode bytes pc = .ok (.isub, 1))  (hq : pc' = pc + 1) (K : OGo p.tables e below P T (mkF m pc' Ls (.int (x - y) :: st))) : OGo p.tables e below P T (mkF m pc Ls (.int y :: .int x :: st)) := by
  subst hq
  exact og (fun _ q => XS.isub X.here X.hx rfl (X.hd hd) rfl q) K
theorem og_iand (X : OSt Z EL a0 n0 h0 ws own bytes mx p l e R s m args below meth c sv T h k n) (pc' : Nat) {x y : Int32} (hd : decode bytes pc = .ok (.iand, 1))  (hq : pc' = pc + 1) (K : OGo p.tables e below P T (mkF m pc' Ls (.int (x &&& y) :: st))) : OGo p.tables e below P T (mkF m pc Ls (.int y :: .int x :: st)) := by
  subst hq
  exact og (fun _ q => XS.iand X.here X.hx rfl (X.hd hd) rfl q) K
theorem og_imul (X : OSt Z EL a0 n0 h0 ws own bytes mx p l e R s m args below meth c sv T h k n) (pc' : Nat) {x y : Int32} (hd : decode bytes pc = .ok (.imul, 1))  (hq : pc' = pc + 1) (K : OGo p.tables e below P T (mkF m pc' Ls (.int (x * y) :: st))) : OGo p.tables e below P T (mkF m pc Ls (.int y :: .int x :: st)) := by
  subst hq
  exact og (fun _ q => XS.imul X.here X.hx rfl (X.hd hd) rfl q) K
theorem og_ixor (X : OSt Z EL a0 n0 h0 ws own bytes mx p l e R s m args below meth c sv T h k n) (pc' : Nat) {x y : Int32} (hd : decode bytes pc = .ok (.ixor, 1))  (hq : pc' = pc + 1) (K : OGo p.tables e below P T (mkF m pc' Ls (.int (x ^^^ y) :: st))) : OGo p.tables e below P T (mkF m pc Ls (.int y :: .int x :: st)) := by
  subst hq
  exact og (fun _ q => XT.ixor X.here X.hx rfl (X.hd hd) rfl q) K
theorem og_ior (X : OSt Z EL a0 n0 h0 ws own bytes mx p l e R s m args below meth c sv T h k n) (pc' : Nat) {x y : Int32} (hd : decode bytes pc = .ok (.ior, 1))  (hq : pc' = pc + 1) (K : OGo p.tables e below P T (mkF m pc' Ls (.int (x ||| y) :: st))) : OGo p.tables e below P T (mkF m pc Ls (.int y :: .int x :: st)) := by
  subst hq
  exact og (fun _ q => XT.ior X.here X.hx rfl (X.hd hd) rfl q) K
theorem og_ishl (X : OSt Z EL a0 n0 h0 ws own bytes mx p l e R s m args below meth c sv T h k n) (pc' : Nat) {x y : Int32} (hd : decode bytes pc = .ok (.ishl, 1))  (hq : pc' = pc + 1) (K : OGo p.tables e below P T (mkF m pc' Ls (.int (x <<< (y &&& 31)) :: st))) : OGo p.tables e below P T (mkF m pc Ls (.int y :: .int x :: st)) := by
  subst hq
  exact og (fun _ q => XT.ishl X.here X.hx rfl (X.hd hd) rfl q) K
theorem og_ishr (X : OSt Z EL a0 n0 h0 ws own bytes mx p l e R s m args below meth c sv T h k n) (pc' : Nat) {x y : Int32} (hd : decode bytes pc = .ok (.ishr, 1))  (hq : pc' = pc + 1) (K : OGo p.tables e below P T (mkF m pc' Ls (.int (x >>> (y &&& 31)) :: st))) : OGo p.tables e below P T (mkF m pc Ls (.int y :: .int x :: st)) := by
  subst hq
  exact og (fun _ q => XT.ishr X.here X.hx rfl (X.hd hd) rfl q) K
theorem og_iushr (X : OSt Z EL a0 n0 h0 ws own bytes mx p l e R s m args below meth c sv T h k n) (pc' : Nat) {x y : Int32} (hd : decode bytes pc = .ok (.iushr, 1))  (hq : pc' = pc + 1) (K : OGo p.tables e below P T (mkF m pc' Ls (.int (Jvm.Free.XT.ushr x y) :: st))) : OGo p.tables e below P T (mkF m pc Ls (.int y :: .int x :: st)) := by
  subst hq
  exact og (fun _ q => XT.iushr X.here X.hx rfl (X.hd hd) rfl q) K
theorem og_idiv (X : OSt Z EL a0 n0 h0 ws own bytes mx p l e R s m args below meth c sv T h k n) (pc' : Nat) {x y : Int32} (hd : decode bytes pc = .ok (.idiv, 1)) (hy : y ≠ 0) (hq : pc' = pc + 1) (K : OGo p.tables e below P T (mkF m pc' Ls (.int (x / y) :: st))) : OGo p.tables e below P T (mkF m pc Ls (.int y :: .int x :: st)) := by
  subst hq
  exact og (fun _ q => XS.idiv X.here X.hx rfl (X.hd hd) rfl hy q) K
theorem og_irem (X : OSt Z EL a0 n0 h0 ws own bytes mx p l e R s m args below meth c sv T h k n) (pc' : Nat) {x y : Int32} (hd : decode bytes pc = .ok (.irem, 1)) (hy : y ≠ 0) (hq : pc' = pc + 1) (K : OGo p.tables e below P T (mkF m pc' Ls (.int (x % y) :: st))) : OGo p.tables e below P T (mkF m pc Ls (.int y :: .int x :: st)) := by
  subst hq
  have q0 : x - x / y * y = x % y := irem_eq_mod x y
  exact og (fun _ q => XS.irem X.here X.hx rfl (X.hd hd) rfl hy (by rw [q0]; exact q)) K
theorem og_ineg (X : OSt Z EL a0 n0 h0 ws own bytes mx p l e R s m args below meth c sv T h k n) (pc' : Nat) {x : Int32} (hd : decode bytes pc = .ok (.ineg, 1))  (hq : pc' = pc + 1) (K : OGo p.tables e below P T (mkF m pc' Ls (.int (-x) :: st))) : OGo p.tables e below P T (mkF m pc Ls (.int x :: st)) := by
  subst hq
  exact og (fun _ q => XS.ineg X.here X.hx rfl (X.hd hd) rfl q) K
theorem og_ladd (X : OSt Z EL a0 n0 h0 ws own bytes mx p l e R s m args below meth c sv T h k n) (pc' : Nat) {x y : Int64} (hd : decode bytes pc = .ok (.ladd, 1))  (hq : pc' = pc + 1) (K : OGo p.tables e below P T (mkF m pc' Ls (.long (x + y) :: st))) : OGo p.tables e below P T (mkF m pc Ls (.long y :: .long x :: st)) := by
  subst hq
  exact og (fun _ q => XT.ladd X.here X.hx rfl (X.hd hd) rfl q) K
theorem og_lsub (X : OSt Z EL a0 n0 h0 ws own bytes mx p l e R s m args below meth c sv T h k n) (pc' : Nat) {x y : Int64} (hd : decode bytes pc = .ok (.lsub, 1))  (hq : pc' = pc + 1) (K : OGo p.tables e below P T (mkF m pc' Ls (.long (x - y) :: st))) : OGo p.tables e below P T (mkF m pc Ls (.long y :: .long x :: st)) := by
  subst hq
  exact og (fun _ q => XT.lsub X.here X.hx rfl (X.hd hd) rfl q) K
theorem og_lmul (X : OSt Z EL a0 n0 h0 ws own bytes mx p l e R s m args below meth c sv T h k n) (pc' : Nat) {x y : Int64} (hd : decode bytes pc = .ok (.lmul, 1))  (hq : pc' = pc + 1) (K : OGo p.tables e below P T (mkF m pc' Ls (.long (x * y) :: st))) : OGo p.tables e below P T (mkF m pc Ls (.long y :: .long x :: st)) := by
  subst hq
  exact og (fun _ q => XT.lmul X.here X.hx rfl (X.hd hd) rfl q) K
theorem og_land (X : OSt Z EL a0 n0 h0 ws own bytes mx p l e R s m args below meth c sv T h k n) (pc' : Nat) {x y : Int64} (hd : decode bytes pc = .ok (.land, 1))  (hq : pc' = pc + 1) (K : OGo p.tables e below P T (mkF m pc' Ls (.long (x &&& y) :: st))) : OGo p.tables e below P T (mkF m pc Ls (.long y :: .long x :: st)) := by
  subst hq
  exact og (fun _ q => XT.land X.here X.hx rfl (X.hd hd) rfl q) K
theorem og_lor (X : OSt Z EL a0 n0 h0 ws own bytes mx p l e R s m args below meth c sv T h k n) (pc' : Nat) {x y : Int64} (hd : decode bytes pc = .ok (.lor, 1))  (hq : pc' = pc + 1) (K : OGo p.tables e below P T (mkF m pc' Ls (.long (x ||| y) :: st))) : OGo p.tables e below P T (mkF m pc Ls (.long y :: .long x :: st)) := by
  subst hq
  exact og (fun _ q => XT.lor X.here X.hx rfl (X.hd hd) rfl q) K
theorem og_lxor (X : OSt Z EL a0 n0 h0 ws own bytes mx p l e R s m args below meth c sv T h k n) (pc' : Nat) {x y : Int64} (hd : decode bytes pc = .ok (.lxor, 1))  (hq : pc' = pc + 1) (K : OGo p.tables e below P T (mkF m pc' Ls (.long (x ^^^ y) :: st))) : OGo p.tables e below P T (mkF m pc Ls (.long y :: .long x :: st)) := by
  subst hq
  exact og (fun _ q => XT.lxor X.here X.hx rfl (X.hd hd) rfl q) K
theorem og_lcmp (X : OSt Z EL a0 n0 h0 ws own bytes mx p l e R s m args below meth c sv T h k n) (pc' : Nat) {x y : Int64} (hd : decode bytes pc = .ok (.lcmp, 1))  (hq : pc' = pc + 1) (K : OGo p.tables e below P T (mkF m pc' Ls (.int (Jvm.Free.XT.cmpL x y) :: st))) : OGo p.tables e below P T (mkF m pc Ls (.long y :: .long x :: st)) := by
  subst hq
  exact og (fun _ q => XT.lcmp X.here X.hx rfl (X.hd hd) rfl q) K
theorem og_i2l (X : OSt Z EL a0 n0 h0 ws own bytes mx p l e R s m args below meth c sv T h k n) (pc' : Nat) {x : Int32} (hd : decode bytes pc = .ok (.i2l, 1))  (hq : pc' = pc + 1) (K : OGo p.tables e below P T (mkF m pc' Ls (.long x.toInt64 :: st))) : OGo p.tables e below P T (mkF m pc Ls (.int x :: st)) := by
  subst hq
  exact og (fun _ q => XT.i2l X.here X.hx rfl (X.hd hd) rfl q) K
theorem og_i2b (X : OSt Z EL a0 n0 h0 ws own bytes mx p l e R s m args below meth c sv T h k n) (pc' : Nat) {x : Int32} (hd : decode bytes pc = .ok (.i2b, 1))  (hq : pc' = pc + 1) (K : OGo p.tables e below P T (mkF m pc' Ls (.int x.toInt8.toInt32 :: st))) : OGo p.tables e below P T (mkF m pc Ls (.int x :: st)) := by
  subst hq
  exact og (fun _ q => XT.i2b X.here X.hx rfl (X.hd hd) rfl q) K
theorem og_i2c (X : OSt Z EL a0 n0 h0 ws own bytes mx p l e R s m args below meth c sv T h k n) (pc' : Nat) {x : Int32} (hd : decode bytes pc = .ok (.i2c, 1))  (hq : pc' = pc + 1) (K : OGo p.tables e below P T (mkF m pc' Ls (.int x.toUInt32.toUInt16.toUInt32.toInt32 :: st))) : OGo p.tables e below P T (mkF m pc Ls (.int x :: st)) := by
  subst hq
  exact og (fun _ q => XT.i2c X.here X.hx rfl (X.hd hd) rfl q) K
theorem og_i2s (X : OSt Z EL a0 n0 h0 ws own bytes mx p l e R s m args below meth c sv T h k n) (pc' : Nat) {x : Int32} (hd : decode bytes pc = .ok (.i2s, 1))  (hq : pc' = pc + 1) (K : OGo p.tables e below P T (mkF m pc' Ls (.int x.toInt16.toInt32 :: st))) : OGo p.tables e below P T (mkF m pc Ls (.int x :: st)) := by
  subst hq
  exact og (fun _ q => XT.i2s X.here X.hx rfl (X.hd hd) rfl q) K
theorem og_l2i (X : OSt Z EL a0 n0 h0 ws own bytes mx p l e R s m args below meth c sv T h k n) (pc' : Nat) {x : Int64} (hd : decode bytes pc = .ok (.l2i, 1))  (hq : pc' = pc + 1) (K : OGo p.tables e below P T (mkF m pc' Ls (.int x.toInt32 :: st))) : OGo p.tables e below P T (mkF m pc Ls (.long x :: st)) := by
  subst hq
  exact og (fun _ q => XT.l2i X.here X.hx rfl (X.hd hd) rfl q) K
theorem og_i2c8 (X : OSt Z EL a0 n0 h0 ws own bytes mx p l e R s m args below meth c sv T h k n) (pc' : Nat) {x : Int32} (hd : decode bytes pc = .ok (.i2c, 1)) (hq : pc' = pc + 1) (K : OGo p.tables e below P T (mkF m pc' Ls (.int (x &&& 255) :: st))) : OGo p.tables e below P T (mkF m pc Ls (.int (x &&& 255) :: st)) := by
  subst hq
  exact og (fun _ q => XT.i2c X.here X.hx rfl (X.hd hd) rfl (by rw [i2c_mask]; exact q)) K
theorem og_dup (X : OSt Z EL a0 n0 h0 ws own bytes mx p l e R s m args below meth c sv T h k n) (pc' : Nat) {x : Value} (hd : decode bytes pc = .ok (.dup, 1)) (hc : x.category = 1) (hq : pc' = pc + 1) (K : OGo p.tables e below P T (mkF m pc' Ls (x :: x :: st))) : OGo p.tables e below P T (mkF m pc Ls (x :: st)) := by
  subst hq
  exact og (fun _ q => XS.dup X.here X.hx rfl (X.hd hd) rfl hc q) K
theorem og_pop (X : OSt Z EL a0 n0 h0 ws own bytes mx p l e R s m args below meth c sv T h k n) (pc' : Nat) {x : Value} (hd : decode bytes pc = .ok (.pop, 1)) (hc : x.category = 1) (hq : pc' = pc + 1) (K : OGo p.tables e below P T (mkF m pc' Ls st)) : OGo p.tables e below P T (mkF m pc Ls (x :: st)) := by
  subst hq
  exact og (fun _ q => XT.pop X.here X.hx rfl (X.hd hd) rfl hc q) K
theorem og_dupX1 (X : OSt Z EL a0 n0 h0 ws own bytes mx p l e R s m args below meth c sv T h k n) (pc' : Nat) {x y : Value} (hd : decode bytes pc = .ok (.dup_x1, 1)) (hc : x.category = 1) (hc' : y.category = 1) (hq : pc' = pc + 1) (K : OGo p.tables e below P T (mkF m pc' Ls (x :: y :: x :: st))) : OGo p.tables e below P T (mkF m pc Ls (x :: y :: st)) := by
  subst hq
  exact og (fun _ q => XT.dupX1 X.here X.hx rfl (X.hd hd) rfl hc hc' q) K
theorem og_dup2 (X : OSt Z EL a0 n0 h0 ws own bytes mx p l e R s m args below meth c sv T h k n) (pc' : Nat) {x y : Value} (hd : decode bytes pc = .ok (.dup2, 1)) (hc : x.category = 1) (hc' : y.category = 1) (hq : pc' = pc + 1) (K : OGo p.tables e below P T (mkF m pc' Ls (x :: y :: x :: y :: st))) : OGo p.tables e below P T (mkF m pc Ls (x :: y :: st)) := by
  subst hq
  exact og (fun _ q => XT.dup2 X.here X.hx rfl (X.hd hd) rfl hc hc' q) K
theorem og_istore (X : OSt Z EL a0 n0 h0 ws own bytes mx p l e R s m args below meth c sv T h k n) (pc' : Nat) (l' : Array Slot) {j : Nat} {x : Int32} (hd : decode bytes pc = .ok (.istore j, 2)) (hl : storeLocals Ls j (.int x) = some l') (hq : pc' = pc + 2) (K : OGo p.tables e below P T (mkF m pc' l' st)) : OGo p.tables e below P T (mkF m pc Ls (.int x :: st)) := by
  subst hq
  exact og (fun _ q => XS.istore X.here X.hx rfl (X.hd hd) rfl hl q) K
theorem og_istoreN (X : OSt Z EL a0 n0 h0 ws own bytes mx p l e R s m args below meth c sv T h k n) (pc' : Nat) (l' : Array Slot) {j : Fin 4} {x : Int32} (hd : decode bytes pc = .ok (.istore_n j, 1)) (hl : storeLocals Ls j.val (.int x) = some l') (hq : pc' = pc + 1) (K : OGo p.tables e below P T (mkF m pc' l' st)) : OGo p.tables e below P T (mkF m pc Ls (.int x :: st)) := by
  subst hq
  exact og (fun _ q => XS.istoreN X.here X.hx rfl (X.hd hd) rfl hl q) K
theorem og_lstore (X : OSt Z EL a0 n0 h0 ws own bytes mx p l e R s m args below meth c sv T h k n) (pc' : Nat) (l' : Array Slot) {j : Nat} {x : Int64} (hd : decode bytes pc = .ok (.lstore j, 2)) (hl : storeLocals Ls j (.long x) = some l') (hq : pc' = pc + 2) (K : OGo p.tables e below P T (mkF m pc' l' st)) : OGo p.tables e below P T (mkF m pc Ls (.long x :: st)) := by
  subst hq
  exact og (fun _ q => XT.lstore X.here X.hx rfl (X.hd hd) rfl hl q) K
theorem og_lstoreN (X : OSt Z EL a0 n0 h0 ws own bytes mx p l e R s m args below meth c sv T h k n) (pc' : Nat) (l' : Array Slot) {j : Fin 4} {x : Int64} (hd : decode bytes pc = .ok (.lstore_n j, 1)) (hl : storeLocals Ls j.val (.long x) = some l') (hq : pc' = pc + 1) (K : OGo p.tables e below P T (mkF m pc' l' st)) : OGo p.tables e below P T (mkF m pc Ls (.long x :: st)) := by
  subst hq
  exact og (fun _ q => XT.lstoreN X.here X.hx rfl (X.hd hd) rfl hl q) K
theorem og_astore (X : OSt Z EL a0 n0 h0 ws own bytes mx p l e R s m args below meth c sv T h k n) (pc' : Nat) (l' : Array Slot) {j : Nat} {x : Value} (hd : decode bytes pc = .ok (.astore j, 2)) (hv : x.isRef = true) (hl : storeLocals Ls j x = some l') (hq : pc' = pc + 2) (K : OGo p.tables e below P T (mkF m pc' l' st)) : OGo p.tables e below P T (mkF m pc Ls (x :: st)) := by
  subst hq
  exact og (fun _ q => XS.astore X.here X.hx rfl (X.hd hd) rfl hv hl q) K
theorem og_astoreN (X : OSt Z EL a0 n0 h0 ws own bytes mx p l e R s m args below meth c sv T h k n) (pc' : Nat) (l' : Array Slot) {j : Fin 4} {x : Value} (hd : decode bytes pc = .ok (.astore_n j, 1)) (hv : x.isRef = true) (hl : storeLocals Ls j.val x = some l') (hq : pc' = pc + 1) (K : OGo p.tables e below P T (mkF m pc' l' st)) : OGo p.tables e below P T (mkF m pc Ls (x :: st)) := by
  subst hq
  exact og (fun _ q => XS.astoreN X.here X.hx rfl (X.hd hd) rfl hv hl q) K
theorem og_iinc (X : OSt Z EL a0 n0 h0 ws own bytes mx p l e R s m args below meth c sv T h k n) (pc' : Nat) (l' : Array Slot) {j : Nat} {i : Int} {x : Int32} (hd : decode bytes pc = .ok (.iinc j i, 3)) (hl : Ls[j]? = some (.val (.int x))) (hl' : storeLocals Ls j (.int (x + Int32.ofInt i)) = some l') (hq : pc' = pc + 3) (K : OGo p.tables e below P T (mkF m pc' l' st)) : OGo p.tables e below P T (mkF m pc Ls st) := by
  subst hq
  exact og (fun _ q => XS.iinc X.here X.hx rfl (X.hd hd) hl hl' q) K
theorem og_goto (X : OSt Z EL a0 n0 h0 ws own bytes mx p l e R s m args below meth c sv T h k n) (pc' : Nat)  {o : Int} (hd : decode bytes pc = .ok (.goto o, 3))  (ho : 0 ≤ (pc : Int) + o) (hp : ((pc : Int) + o).toNat = pc') (K : OGo p.tables e below P T (mkF m pc' Ls st)) : OGo p.tables e below P T (mkF m pc Ls st) := og (fun _ q => XS.goto X.here X.hx rfl rfl (X.hd hd) ho hp q) K
theorem og_ifY (X : OSt Z EL a0 n0 h0 ws own bytes mx p l e R s m args below meth c sv T h k n) (pc' : Nat) {cd : ClassFile.Cond} {x : Int32} {o : Int} (hd : decode bytes pc = .ok (.ifCond cd o, 3)) (hc : ifCond.holds cd x = true) (ho : 0 ≤ (pc : Int) + o) (hp : ((pc : Int) + o).toNat = pc') (K : OGo p.tables e below P T (mkF m pc' Ls st)) : OGo p.tables e below P T (mkF m pc Ls (.int x :: st)) := og (fun _ q => XS.ifYes X.here X.hx rfl rfl (X.hd hd) rfl hc ho hp q) K
theorem og_icmpY (X : OSt Z EL a0 n0 h0 ws own bytes mx p l e R s m args below meth c sv T h k n) (pc' : Nat) {cd : ClassFile.Cond} {x y : Int32} {o : Int} (hd : decode bytes pc = .ok (.if_icmp cd o, 3)) (hc : if_icmp.holds cd x y = true) (ho : 0 ≤ (pc : Int) + o) (hp : ((pc : Int) + o).toNat = pc') (K : OGo p.tables e below P T (mkF m pc' Ls st)) : OGo p.tables e below P T (mkF m pc Ls (.int y :: .int x :: st)) := og (fun _ q => XS.icmpYes X.here X.hx rfl rfl (X.hd hd) rfl hc ho hp q) K
theorem og_nullY (X : OSt Z EL a0 n0 h0 ws own bytes mx p l e R s m args below meth c sv T h k n) (pc' : Nat)  {o : Int} (hd : decode bytes pc = .ok (.ifnull o, 3))  (ho : 0 ≤ (pc : Int) + o) (hp : ((pc : Int) + o).toNat = pc') (K : OGo p.tables e below P T (mkF m pc' Ls st)) : OGo p.tables e below P T (mkF m pc Ls (.null :: st)) := og (fun _ q => XS.ifnullYes X.here X.hx rfl rfl (X.hd hd) rfl ho hp q) K
theorem og_nonnullY (X : OSt Z EL a0 n0 h0 ws own bytes mx p l e R s m args below meth c sv T h k n) (pc' : Nat) {b : Addr} {o : Int} (hd : decode bytes pc = .ok (.ifnonnull o, 3))  (ho : 0 ≤ (pc : Int) + o) (hp : ((pc : Int) + o).toNat = pc') (K : OGo p.tables e below P T (mkF m pc' Ls st)) : OGo p.tables e below P T (mkF m pc Ls (.ref b :: st)) := og (fun _ q => XT.ifnonnullYes X.here X.hx rfl rfl (X.hd hd) rfl ho hp q) K
theorem og_acmpY (X : OSt Z EL a0 n0 h0 ws own bytes mx p l e R s m args below meth c sv T h k n) (pc' : Nat) {cd : ClassFile.ACond} {x y : Value} {o : Int} (hd : decode bytes pc = .ok (.if_acmp cd o, 3)) (hx' : x.isRef = true) (hy' : y.isRef = true) (hc : Jvm.Free.XT.acmp cd x y = true) (ho : 0 ≤ (pc : Int) + o) (hp : ((pc : Int) + o).toNat = pc') (K : OGo p.tables e below P T (mkF m pc' Ls st)) : OGo p.tables e below P T (mkF m pc Ls (y :: x :: st)) := og (fun _ q => XT.acmpYes X.here X.hx rfl rfl (X.hd hd) rfl hx' hy' hc ho hp q) K
theorem og_ifN (X : OSt Z EL a0 n0 h0 ws own bytes mx p l e R s m args below meth c sv T h k n) (pc' : Nat) {cd : ClassFile.Cond} {o : Int} {x : Int32} (hd : decode bytes pc = .ok (.ifCond cd o, 3)) (hc : ifCond.holds cd x = false) (hq : pc' = pc + 3) (K : OGo p.tables e below P T (mkF m pc' Ls st)) : OGo p.tables e below P T (mkF m pc Ls (.int x :: st)) := by
  subst hq
  exact og (fun _ q => XS.ifNo X.here X.hx rfl (X.hd hd) rfl hc q) K
theorem og_icmpN (X : OSt Z EL a0 n0 h0 ws own bytes mx p l e R s m args below meth c sv T h k n) (pc' : Nat) {cd : ClassFile.Cond} {o : Int} {x y : Int32} (hd : decode bytes pc = .ok (.if_icmp cd o, 3)) (hc : if_icmp.holds cd x y = false) (hq : pc' = pc + 3) (K : OGo p.tables e below P T (mkF m pc' Ls st)) : OGo p.tables e below P T (mkF m pc Ls (.int y :: .int x :: st)) := by
  subst hq
  exact og (fun _ q => XS.icmpNo X.here X.hx rfl (X.hd hd) rfl hc q) K
theorem og_nullN (X : OSt Z EL a0 n0 h0 ws own bytes mx p l e R s m args below meth c sv T h k n) (pc' : Nat) {o : Int} {b : Addr} (hd : decode bytes pc = .ok (.ifnull o, 3))  (hq : pc' = pc + 3) (K : OGo p.tables e below P T (mkF m pc' Ls st)) : OGo p.tables e below P T (mkF m pc Ls (.ref b :: st)) := by
  subst hq
  exact og (fun _ q => XS.ifnullNo X.here X.hx rfl (X.hd hd) rfl q) K
theorem og_nonnullN (X : OSt Z EL a0 n0 h0 ws own bytes mx p l e R s m args below meth c sv T h k n) (pc' : Nat) {o : Int} (hd : decode bytes pc = .ok (.ifnonnull o, 3))  (hq : pc' = pc + 3) (K : OGo p.tables e below P T (mkF m pc' Ls st)) : OGo p.tables e below P T (mkF m pc Ls (.null :: st)) := by
  subst hq
  exact og (fun _ q => XT.ifnonnullNo X.here X.hx rfl (X.hd hd) rfl q) K
theorem og_acmpN (X : OSt Z EL a0 n0 h0 ws own bytes mx p l e R s m args below meth c sv T h k n) (pc' : Nat) {cd : ClassFile.ACond} {o : Int} {x y : Value} (hd : decode bytes pc = .ok (.if_acmp cd o, 3)) (hx' : x.isRef = true) (hy' : y.isRef = true) (hc : Jvm.Free.XT.acmp cd x y = false) (hq : pc' = pc + 3) (K : OGo p.tables e below P T (mkF m pc' Ls st)) : OGo p.tables e below P T (mkF m pc Ls (y :: x :: st)) := by
  subst hq
  exact og (fun _ q => XT.acmpNo X.here X.hx rfl (X.hd hd) rfl hx' hy' hc q) K
theorem own_nc8 (y : Int32) : nar .char (y &&& 255) = y &&& 255 := i2c_mask y
theorem own_u16 (u : UInt16) : (u.toUInt32.toInt32).toInt = u.toNat := by
  have hu := u.toNat_lt
  show ((u.toUInt32).toBitVec).toInt = _
  have hm : (u.toUInt32).toBitVec.toNat = u.toNat := by
    show (u.toUInt32).toNat = _
    simp
  rw [BitVec.toInt_eq_toNat_cond, hm, if_pos (by omega)]
theorem own_ncc (y : Int32) : nar .char (y.toUInt32.toUInt16.toUInt32.toInt32) = y.toUInt32.toUInt16.toUInt32.toInt32 := by
  have e : (y.toUInt32.toUInt16.toUInt32.toInt32).toUInt32.toUInt16 = y.toUInt32.toUInt16 := UInt16.toUInt16_toUInt32 _
  show ((y.toUInt32.toUInt16.toUInt32.toInt32).toUInt32.toUInt16).toUInt32.toInt32 = _
  rw [e]
theorem own_lat16 (y : Int32) : ¬ y.toUInt32.toUInt16.toUInt32.toInt32 < 0 ∧ ¬ (65535 : Int32) < y.toUInt32.toUInt16.toUInt32.toInt32 := by
  have h2 := (y.toUInt32.toUInt16).toNat_lt
  have e1 : (0 : Int32).toInt = 0 := (by decide)
  have e2 : (65535 : Int32).toInt = 65535 := (by decide)
  rw [Int32.lt_iff_toInt_lt, Int32.lt_iff_toInt_lt, own_u16, e1, e2]
  omega
theorem own_lat8 (x : Int32) : ¬ (x &&& 255) < 0 ∧ ¬ (255 : Int32) < (x &&& 255) := by
  have t : ∀ k : Fin 256, ¬ (Int32.ofNat k.val) < 0 ∧ ¬ (255 : Int32) < (Int32.ofNat k.val) := by decide +kernel
  have h : (x &&& 255).toBitVec.toNat < 256 := by
    simp only [Int32.toBitVec_and, BitVec.toNat_and]
    exact Nat.lt_succ_of_le Nat.and_le_right
  have e : (x &&& 255) = Int32.ofNat (x &&& 255).toBitVec.toNat := by
    apply Int32.toBitVec_inj.mp
    show _ = BitVec.ofNat 32 _
    rw [BitVec.ofNat_toNat]; simp
  rw [e]
  exact t ⟨_, h⟩
theorem own_up8 {c : Int32} (h : ¬ (255 : Int32) < c) : ¬ (65535 : Int32) < c := fun q => h (by rw [Int32.lt_iff_toInt_lt] at q ⊢; have e1 : (65535 : Int32).toInt = 65535 := rfl; have e2 : (255 : Int32).toInt = 255 := rfl; omega)
def own_stv (Z : State) (C n d : String) : Value := ((Term.static C n d).eval #[] Z none [] Z).getD .null
def own_sti (Z : State) (C n d : String) : Int32 := match (Term.static C n d).eval #[] Z none [] Z with | some (.int z) => z | _ => 0
theorem own_stv_of {Z : State} {C n d : String} {v : Value} {a : Array Value} (h : (Term.static C n d).eval a Z none [] Z = some v) : own_stv Z C n d = v := by
  have q : (Term.static C n d).eval #[] Z none [] Z = some v := h
  simp [own_stv, q]
theorem own_sti_of {Z : State} {C n d : String} {v : Int32} {a : Array Value} (h : (Term.static C n d).eval a Z none [] Z = some (.int v)) : own_sti Z C n d = v := by
  have q : (Term.static C n d).eval #[] Z none [] Z = some (.int v) := h
  simp [own_sti, q]
theorem own_l0 {P : Int32 → Prop} : ∀ c ∈ ([] : List Int32), P c := fun _ q => nomatch q
theorem own_lS {P : Int32 → Prop} {y : Int32} {M : List Int32} (q : P y) (r : ∀ x ∈ M, P x) : ∀ x ∈ y :: M, P x := fun x z => (List.mem_cons.mp z).elim (fun u => u ▸ q) (r x)
def own_N (x : Int32) : Nat := x.toBitVec.toNat
theorem own_N_lt (x : Int32) : own_N x < 4294967296 := x.toBitVec.isLt
theorem own_N_inj {x y : Int32} : own_N x = own_N y ↔ x = y := ⟨fun h => Int32.toBitVec_inj.mp (BitVec.eq_of_toNat_eq h), fun h => by rw [h]⟩
theorem own_N_and {x m : Int32} (k : Nat) (hm : m.toBitVec.toNat = 2 ^ k - 1) : own_N (x &&& m) = own_N x % 2 ^ k := by
  unfold own_N; rw [Int32.toBitVec_and, BitVec.toNat_and, hm, Nat.and_two_pow_sub_one_eq_mod]
theorem own_N_ushr {x j : Int32} (k : Nat) (hj : (j &&& 31).toUInt32.toNat = k) (hk : k < 32) : own_N (XT.ushr x j) = own_N x / 2 ^ k := by
  show (x.toUInt32 >>> (j &&& 31).toUInt32).toNat = x.toUInt32.toNat / 2 ^ k
  rw [UInt32.toNat_shiftRight, hj, Nat.mod_eq_of_lt hk, Nat.shiftRight_eq_div_pow]
theorem own_N3 (x : Int32) : own_N (x &&& 3) = own_N x % 4 := own_N_and 2 rfl
theorem own_N255 (x : Int32) : own_N (x &&& 255) = own_N x % 256 := own_N_and 8 rfl
theorem own_nbb (y : Int32) : (y.toInt8.toInt32).toInt8.toInt32 = y.toInt8.toInt32 := by simp
theorem own_zb {z : Int32} (h : z = 0 ∨ z = 1) : narrow .boolean (.int z) = .int z ∧ fits .boolean (.int z) = true := by rcases h with rfl | rfl <;> exact ⟨rfl, rfl⟩
theorem own_xor0 {a b : Int32} : a ^^^ b = 0 ↔ a = b := by
  rw [← Int32.toBitVec_inj, ← Int32.toBitVec_inj, Int32.toBitVec_xor]
  exact BitVec.xor_eq_zero_iff
theorem own_xor_ushr_and (x y j k : Int32) : XT.ushr (x ^^^ y) j &&& k = (XT.ushr x j &&& k) ^^^ (XT.ushr y j &&& k) := by
  apply Int32.toBitVec_inj.mp
  show ((x ^^^ y).toUInt32 >>> (j &&& 31).toUInt32).toBitVec &&& k.toBitVec = ((x.toUInt32 >>> (j &&& 31).toUInt32).toBitVec &&& k.toBitVec) ^^^ ((y.toUInt32 >>> (j &&& 31).toUInt32).toBitVec &&& k.toBitVec)
  have e : (x ^^^ y).toUInt32 = x.toUInt32 ^^^ y.toUInt32 := rfl
  rw [e, UInt32.toBitVec_shiftRight, UInt32.toBitVec_shiftRight, UInt32.toBitVec_shiftRight, UInt32.toBitVec_xor]
  ext i hi
  simp [Bool.and_xor_distrib_right]
theorem own_nch {c : Int32} (h0 : ¬ c < 0) (h1 : ¬ (65535 : Int32) < c) : nar .char c = c := by
  rw [Int32.lt_iff_toInt_lt] at h0 h1
  have e0 : (0 : Int32).toInt = 0 := rfl
  have e1 : (65535 : Int32).toInt = 65535 := rfl
  rw [e0] at h0; rw [e1] at h1
  have hn : c.toUInt32.toNat = c.toInt.toNat := by
    have : c.toInt = (c.toBitVec).toInt := rfl
    have h2 : (c.toBitVec).toInt = if 2 * c.toBitVec.toNat < 2 ^ 32 then (c.toBitVec.toNat : Int) else (c.toBitVec.toNat : Int) - 2 ^ 32 := BitVec.toInt_eq_toNat_cond _
    have h3 : c.toUInt32.toNat = c.toBitVec.toNat := rfl
    have := c.toBitVec.isLt
    split at h2 <;> omega
  apply Int32.toInt_inj.mp
  show (c.toUInt32.toUInt16.toUInt32.toInt32).toInt = _
  rw [own_u16]
  show ((c.toUInt32.toUInt16.toNat : Nat) : Int) = _
  have h4 : c.toUInt32.toUInt16.toNat = c.toUInt32.toNat % 65536 := by simp
  rw [h4, hn]; omega
theorem own_fitC {c : Int32} (h0 : ¬ c < 0) (h1 : ¬ (65535 : Int32) < c) : narrow .char (.int c) = .int c := by
  show Value.int (nar .char c) = _
  rw [own_nch h0 h1]
theorem own_lc {x : Int64} (h1 : ¬ x < -128) (h2 : ¬ 127 < x) : ¬ (x.toInt32 + 128) < 0 ∧ (x.toInt32 + 128) < 256 ∧ ((x.toInt32 + 128) - 128).toInt64 = x := by
  rw [Int64.lt_iff_toInt_lt] at h1 h2
  have e1 : (-128 : Int64).toInt = -128 := rfl
  have e2 : (127 : Int64).toInt = 127 := rfl
  rw [e1] at h1; rw [e2] at h2
  have hx : x.toInt32.toInt = x.toInt := by rw [Int64.toInt_toInt32]; exact Int.bmod_eq_of_le (by omega) (by omega)
  have hs : (x.toInt32 + 128).toInt = x.toInt + 128 := by
    rw [Int32.toInt_add, hx]; show (x.toInt + 128).bmod _ = _; exact Int.bmod_eq_of_le (by omega) (by omega)
  refine ⟨?_, ?_, ?_⟩
  · rw [Int32.lt_iff_toInt_lt, hs]; show ¬ _ < (0 : Int); omega
  · rw [Int32.lt_iff_toInt_lt, hs]; show _ < (256 : Int); omega
  · apply Int64.toInt_inj.mp
    rw [Int32.toInt_toInt64, Int32.toInt_sub, hs]
    show (x.toInt + 128 - 128).bmod _ = _
    rw [show x.toInt + 128 - 128 = x.toInt by omega]
    exact Int.bmod_eq_of_le (by omega) (by omega)
theorem own_and3 (y : Int32) : y &&& 3 = 0 ∨ y &&& 3 = 1 ∨ y &&& 3 = 2 ∨ y &&& 3 = 3 := by
  have c0 : own_N 0 = 0 := rfl
  have c1 : own_N 1 = 1 := rfl
  have c2 : own_N 2 = 2 := rfl
  have c3 : own_N 3 = 3 := rfl
  simp only [← own_N_inj, own_N3, c0, c1, c2, c3]
  omega
theorem own_new (X : OSt Z EL a0 n0 h0 ws own bytes mx p l e R s m args below meth c sv T h k n) (pc' : Nat) {C : String} {index z : Nat} (hd : decode bytes pc = .ok (.new index, 3)) (w : (Cond.classLink own index C).before a0 Z = true) (wi : (Cond.instantiable C z).before a0 Z = true) (wz : (Cond.initialized C).before a0 Z = true) (hc : k + 1 ≤ R.cells) (hl : n + z ≤ R.slots) (hq : pc' = pc + 3)
    (K : ∀ (T' : State) (h' : Heap) (b : Addr), OSt Z EL a0 n0 h0 ws own bytes mx p l e R s m args below meth c (b :: sv) T' h' (k + 1) (n + z) → Keep h h' [] → h.size ≤ b → b < h'.size → Exa Z h' b C → (∀ {O nm d : String} {ty : FieldType}, Laid Z a0 C O nm d → parseFieldDescriptor d = some ty → Fld Z h' b O nm d (defaultValue ty)) → OGo p.tables e below P T' (mkF m pc' Ls (.ref b :: st))) : OGo p.tables e below P T (mkF m pc Ls st) := by
  subst hq
  obtain ⟨hx, hby, hml, eT, hlk, vm0, locs, Y, I⟩ := X
  obtain ⟨T', h', Y', e', E, A, D, -, stp⟩ := newO Y hx (show Z.Warmed39 (s.setVm vm0).vm from I.2.2.2.2.1) (show (s.setVm vm0).vm.findClass own = _ from I.2.2.2.2.2.1) w wi wz eT (g := mkF m pc Ls st) rfl (hb hby hd) hc hl
  exact og stp (K T' h' h.size ⟨hx, hby, hml, e', hlk, vm0, locs, Y', I.new E (Nat.le_refl _) A.lt⟩ ((Keep.refl _ _).ext E) (Nat.le_refl _) A.lt A D)
theorem own_arr (X : OSt Z EL a0 n0 h0 ws own bytes mx p l e R s m args below meth c sv T h k n) (pc' : Nat) {aty : ArrayType} {z : Int32} (hd : decode bytes pc = .ok (.newarray aty, 2)) (w : (Cond.arrayClass (newarray.typeOf aty)).before a0 Z = true) (hz : ¬ z < 0) {cap : Nat} (hcap : z.toNatClampNeg = cap) (hbig : cap * 8 ≤ 536870912) (hc : k + 1 ≤ R.cells) (hl : n + cap ≤ R.slots) (hq : pc' = pc + 2)
    (K : ∀ (T' : State) (h' : Heap) (b : Addr) (kb : ClassId), OSt Z EL a0 n0 h0 ws own bytes mx p l e R s m args below meth c (b :: sv) T' h' (k + 1) (n + cap) → Keep h h' [] → h.size ≤ b → b < h'.size → Arv Z h' b kb (newarray.typeOf aty) z (List.replicate cap (defaultValue (newarray.typeOf aty))) (defaultValue (newarray.typeOf aty)) → OGo p.tables e below P T' (mkF m pc' Ls (.ref b :: st))) : OGo p.tables e below P T (mkF m pc Ls (.int z :: st)) := by
  subst hq
  obtain ⟨hx, hby, hml, eT, hlk, vm0, locs, Y, I⟩ := X
  obtain ⟨T', h', kb, Y', e', E, A, stp⟩ := newP Y hx (show Z.Warmed39 (s.setVm vm0).vm from I.2.2.2.2.1) w eT (g := mkF m pc Ls (.int z :: st)) rfl (hb hby hd) rfl hz (cap := cap) (Nat.le_of_eq hcap) hbig hc hl
  have V := (Arv.new A hz).pad (pad_rep [] (defaultValue (newarray.typeOf aty)) cap)
  rw [List.nil_append] at V
  exact og stp (K T' h' h.size kb ⟨hx, hby, hml, e', hlk, vm0, locs, Y', I.new E (Nat.le_refl _) A.lt⟩ ((Keep.refl _ _).ext E) (Nat.le_refl _) A.lt V)
theorem own_anew (X : OSt Z EL a0 n0 h0 ws own bytes mx p l e R s m args below meth c sv T h k n) (pc' : Nat) {C : String} {index : Nat} {z : Int32} (hd : decode bytes pc = .ok (.anewarray index, 3)) (w : (Cond.classLink own index C).before a0 Z = true) (w2 : (Cond.arrayOver (.object C)).before a0 Z = true) (hz : ¬ z < 0) {cap : Nat} (hcap : z.toNatClampNeg = cap) (hbig : cap * 8 ≤ 536870912) (hc : k + 1 ≤ R.cells) (hl : n + cap ≤ R.slots) (hq : pc' = pc + 3)
    (K : ∀ (T' : State) (h' : Heap) (b : Addr) (kb : ClassId), OSt Z EL a0 n0 h0 ws own bytes mx p l e R s m args below meth c (b :: sv) T' h' (k + 1) (n + cap) → Keep h h' [] → h.size ≤ b → b < h'.size → Arv Z h' b kb (.object C) z (List.replicate cap .null) .null → Ovr Z kb C → OGo p.tables e below P T' (mkF m pc' Ls (.ref b :: st))) : OGo p.tables e below P T (mkF m pc Ls (.int z :: st)) := by
  subst hq
  obtain ⟨hx, hby, hml, eT, hlk, vm0, locs, Y, I⟩ := X
  obtain ⟨T', h', kb, Y', e', E, A, O, stp⟩ := newR Y hx (show Z.Warmed39 (s.setVm vm0).vm from I.2.2.2.2.1) (show (s.setVm vm0).vm.findClass own = _ from I.2.2.2.2.2.1) w w2 eT (g := mkF m pc Ls (.int z :: st)) rfl (hb hby hd) rfl hz (cap := cap) (Nat.le_of_eq hcap) hbig hc hl
  have V := (Arv.new A hz).pad (pad_rep [] (defaultValue (.object C)) cap)
  rw [List.nil_append] at V
  exact og stp (K T' h' h.size kb ⟨hx, hby, hml, e', hlk, vm0, locs, Y', I.new E (Nat.le_refl _) A.lt⟩ ((Keep.refl _ _).ext E) (Nat.le_refl _) A.lt V O)
theorem own_put (X : OSt Z EL a0 n0 h0 ws own bytes mx p l e R s m args below meth c sv T h k n) (pc' : Nat) {R0 O nm d host C : String} {index kk : Nat} {ty : FieldType} {a : Addr} {v old : Value} (hd : decode bytes pc = .ok (.putfield index, 3)) (w : (Cond.fieldLink own index R0 nm d).before a0 Z = true ∨ (Cond.fieldLinkNest own index R0 nm d host).before a0 Z = true) (via : Via Z R0 O nm d)
    (F : Fld Z h a O nm d old) (E : Exa Z h a C) (L : (Cond.lays C O nm d).before a0 Z = true ∨ ((Cond.laysFinal C O nm d).before a0 Z = true ∧ own = O ∧ meth.name = "<init>")) (wi : (Cond.instantiable C kk).before a0 Z = true) (hty : parseFieldDescriptor d = some ty) (hn : narrow ty v = v) (hf : fits ty v = true) (ha : a ∈ sv) (hq : pc' = pc + 3)
    (K : ∀ (T' : State) (h' : Heap), OSt Z EL a0 n0 h0 ws own bytes mx p l e R s m args below meth c sv T' h' k n → Wr h h' a (RoadKit.slotOf Z O nm d) v → Keep h h' [a] → Fld Z h' a O nm d v → OGo p.tables e below P T' (mkF m pc' Ls st)) : OGo p.tables e below P T (mkF m pc Ls (v :: .ref a :: st)) := by
  subst hq
  obtain ⟨hx, hby, hml, eT, hlk, vm0, locs, Y, I⟩ := X
  obtain ⟨T', h', Y', e', W, stp⟩ := putF Y hx (show Z.Warmed39 (s.setVm vm0).vm from I.2.2.2.2.1) (show (s.setVm vm0).vm.findClass own = _ from I.2.2.2.2.2.1) w via eT F E L wi hty hn hf (g := mkF m pc Ls (v :: .ref a :: st)) rfl rfl (hb hby hd)
  exact og stp (K T' h' ⟨hx, hby, hml, e', hlk, vm0, _, Y', I.wr ha W⟩ W (Keep.of_wr W) (F.same W))
theorem own_get (X : OSt Z EL a0 n0 h0 ws own bytes mx p l e R s m args below meth c sv T h k n) (pc' : Nat) {R0 O nm d host : String} {index : Nat} {a : Addr} {v : Value} (hd : decode bytes pc = .ok (.getfield index, 3)) (w : (Cond.fieldLink own index R0 nm d).before a0 Z = true ∨ (Cond.fieldLinkNest own index R0 nm d host).before a0 Z = true) (via : Via Z R0 O nm d) (F : Fld Z h a O nm d v) (hq : pc' = pc + 3)
    (K : ∀ (T' : State), OSt Z EL a0 n0 h0 ws own bytes mx p l e R s m args below meth c sv T' h k n → OGo p.tables e below P T' (mkF m pc' Ls (v :: st))) : OGo p.tables e below P T (mkF m pc Ls (.ref a :: st)) := by
  subst hq
  obtain ⟨hx, hby, hml, eT, hlk, vm0, locs, Y, I⟩ := X
  obtain ⟨T', Y', e', stp⟩ := getF Y hx (show Z.Warmed39 (s.setVm vm0).vm from I.2.2.2.2.1) (show (s.setVm vm0).vm.findClass own = _ from I.2.2.2.2.2.1) w via eT F (g := mkF m pc Ls (.ref a :: st)) rfl rfl (hb hby hd)
  exact og stp (K T' ⟨hx, hby, hml, e', hlk, vm0, _, Y', I⟩)
theorem own_getS (X : OSt Z EL a0 n0 h0 ws own bytes mx p l e R s m args below meth c sv T h k n) (pc' : Nat) {R0 O nm d host : String} {index : Nat} {v : Value} (hd : decode bytes pc = .ok (.getstatic index, 3)) (w : (Cond.fieldLink own index R0 nm d).before a0 Z = true ∨ (Cond.fieldLinkNest own index R0 nm d host).before a0 Z = true) (via : Via Z R0 O nm d) (F : Sta Z Z.heap O nm d v) (hq : pc' = pc + 3)
    (K : ∀ (T' : State), OSt Z EL a0 n0 h0 ws own bytes mx p l e R s m args below meth c sv T' h k n → OGo p.tables e below P T' (mkF m pc' Ls (v :: st))) : OGo p.tables e below P T (mkF m pc Ls st) := by
  subst hq
  have O1 := X.old
  obtain ⟨hx, hby, hml, eT, hlk, vm0, locs, Y, I⟩ := X
  obtain ⟨T', Y', e', stp⟩ := getS2 Y hx (show Z.Warmed39 (s.setVm vm0).vm from I.2.2.2.2.1) (show (s.setVm vm0).vm.findClass own = _ from I.2.2.2.2.2.1) w via eT (F.ext O1.2) (g := mkF m pc Ls st) rfl (hb hby hd)
  exact og stp (K T' ⟨hx, hby, hml, e', hlk, vm0, _, Y', I⟩)
theorem own_cast (X : OSt Z EL a0 n0 h0 ws own bytes mx p l e R s m args below meth c sv T h k n) (pc' : Nat) {C : String} {index : Nat} {a : Addr} (hd : decode bytes pc = .ok (.checkcast index, 3)) (w : (Cond.classLink own index C).before a0 Z = true) (F : Ins Z h a C true) (hq : pc' = pc + 3)
    (K : ∀ (T' : State), OSt Z EL a0 n0 h0 ws own bytes mx p l e R s m args below meth c sv T' h k n → OGo p.tables e below P T' (mkF m pc' Ls (.ref a :: st))) : OGo p.tables e below P T (mkF m pc Ls (.ref a :: st)) := by
  subst hq
  obtain ⟨hx, hby, hml, eT, hlk, vm0, locs, Y, I⟩ := X
  obtain ⟨T', Y', e', stp⟩ := castY Y hx (show Z.Warmed39 (s.setVm vm0).vm from I.2.2.2.2.1) (show (s.setVm vm0).vm.findClass own = _ from I.2.2.2.2.2.1) w eT F (g := mkF m pc Ls (.ref a :: st)) rfl rfl (hb hby hd)
  exact og stp (K T' ⟨hx, hby, hml, e', hlk, vm0, _, Y', I⟩)
theorem own_instY (X : OSt Z EL a0 n0 h0 ws own bytes mx p l e R s m args below meth c sv T h k n) (pc' : Nat) {C : String} {index : Nat} {a : Addr} (hd : decode bytes pc = .ok (.instanceof index, 3)) (w : (Cond.classLink own index C).before a0 Z = true) (F : Ins Z h a C true) (hq : pc' = pc + 3)
    (K : ∀ (T' : State), OSt Z EL a0 n0 h0 ws own bytes mx p l e R s m args below meth c sv T' h k n → OGo p.tables e below P T' (mkF m pc' Ls (.int 1 :: st))) : OGo p.tables e below P T (mkF m pc Ls (.ref a :: st)) := by
  subst hq
  obtain ⟨hx, hby, hml, eT, hlk, vm0, locs, Y, I⟩ := X
  obtain ⟨T', Y', e', stp⟩ := instY Y hx (show Z.Warmed39 (s.setVm vm0).vm from I.2.2.2.2.1) (show (s.setVm vm0).vm.findClass own = _ from I.2.2.2.2.2.1) w eT F (g := mkF m pc Ls (.ref a :: st)) rfl rfl (hb hby hd)
  exact og stp (K T' ⟨hx, hby, hml, e', hlk, vm0, _, Y', I⟩)
theorem own_instN (X : OSt Z EL a0 n0 h0 ws own bytes mx p l e R s m args below meth c sv T h k n) (pc' : Nat) {C C' : String} {index : Nat} {a : Addr} (hd : decode bytes pc = .ok (.instanceof index, 3)) (w : (Cond.classLink own index C).before a0 Z = true) (F : Ins Z h0 a C false) (E : Exa Z h0 a C') (hq : pc' = pc + 3)
    (K : ∀ (T' : State), OSt Z EL a0 n0 h0 ws own bytes mx p l e R s m args below meth c sv T' h k n → OGo p.tables e below P T' (mkF m pc' Ls (.int 0 :: st))) : OGo p.tables e below P T (mkF m pc Ls (.ref a :: st)) := by
  subst hq
  obtain ⟨hx, hby, hml, eT, hlk, vm0, locs, Y, I⟩ := X
  have e0 : (s.setVm vm0).heap = h0 := I.1
  obtain ⟨T', Y', e', stp⟩ := instN Y hx (show Z.Warmed39 (s.setVm vm0).vm from I.2.2.2.2.1) (show (s.setVm vm0).vm.findClass own = _ from I.2.2.2.2.2.1) w eT (by rw [e0]; exact F) (by rw [e0]; exact E) (g := mkF m pc Ls (.ref a :: st)) rfl rfl (hb hby hd)
  exact og stp (K T' ⟨hx, hby, hml, e', hlk, vm0, _, Y', I⟩)
theorem own_obj0 (X : OSt Z EL a0 n0 h0 ws own bytes mx p l e R s m args below meth c sv T h k n) (pc' : Nat) {index : Nat} {a : Addr} (hd : decode bytes pc = .ok (.invokespecial index, 3)) (w1 : (Cond.methodLink own index Lib.objectInit).before a0 Z = true) (w2 : (Cond.instanceMethod Lib.objectInit).before a0 Z = true) (w3 : (Cond.code Lib.objectInit ⟨#[0xb1]⟩ 1 none).before a0 Z = true) (hsz : Ls.size = mx) {W : Nat} (hW : (st.map fun v => v.category).sum = W) (hf : 1 ≤ R.frames) (hl : W + 12 ≤ R.locals) (hq : pc' = pc + 3)
    (K : ∀ (T' : State), OSt Z EL a0 n0 h0 ws own bytes mx p l e R s m args below meth c sv T' h k n → OGo p.tables e below P T' (mkF m pc' Ls st)) : OGo p.tables e below P T (mkF m pc Ls (.ref a :: st)) := by
  subst hq
  obtain ⟨hx, hby, hml, eT, hlk, vm0, locs, Y, I⟩ := X
  obtain ⟨T', Y', e', stp⟩ := initO Y hx (show Z.Warmed39 (s.setVm vm0).vm from I.2.2.2.2.1) (show (s.setVm vm0).vm.findClass own = _ from I.2.2.2.2.2.1) w1 w2 w3 eT (g := mkF m pc Ls (.ref a :: st)) rfl (by rw [hml]; exact hsz) rfl (hb hby hd) hf (W := W) (by show 2 * 0 + _ ≤ _; rw [hW]; omega) hl
  exact og stp (K T' ⟨hx, hby, hml, e', hlk, vm0, _, Y', I⟩)
theorem own_inb {cl : Cell} {z j : Int32} (S : cl.slots.size = z.toNatClampNeg) (h1 : ¬ j < 0) (h2 : j < z) : ¬ (j < 0 ∨ cl.slots.size ≤ j.toNatClampNeg) := inb_of S ⟨h1, h2⟩
theorem own_stC (X : OSt Z EL a0 n0 h0 ws own bytes mx p l e R s m args below meth c sv T h k n) (pc' : Nat) {a : Addr} {kb : ClassId} {z j x x' : Int32} {vs : List Value} {dv : Value} (hd : decode bytes pc = .ok (.castore, 1)) (A : Arv Z h a kb .char z vs dv) (hx' : nar .char x = x') (h1 : ¬ j < 0) (h2 : j < z) {i : Nat} (hi : j.toNatClampNeg = i) (hl : i < vs.length) (ha : a ∈ sv) (hq : pc' = pc + 1)
    (K : ∀ (T' : State) (h' : Heap), OSt Z EL a0 n0 h0 ws own bytes mx p l e R s m args below meth c sv T' h' k n → Wr h h' a j.toNatClampNeg (.int x') → Keep h h' [a] → Arv Z h' a kb .char z (vs.set i (.int x')) dv → OGo p.tables e below P T' (mkF m pc' Ls st)) : OGo p.tables e below P T (mkF m pc Ls (.int x :: .int j :: .ref a :: st)) := by
  subst hq hx'
  obtain ⟨hx, hby, hml, eT, hlk, vm0, locs, Y, I⟩ := X
  obtain ⟨cl, Ar, q, S, N, Hs, G⟩ := A
  obtain ⟨T', h', Y', e', W, stp⟩ := stC Y hx (show Z.Warmed39 (s.setVm vm0).vm from I.2.2.2.2.1) eT Ar (j := j) (x := x) (own_inb S h1 h2) (g := mkF m pc Ls (.int x :: .int j :: .ref a :: st)) rfl rfl (hb hby hd)
  exact og stp (K T' h' ⟨hx, hby, hml, e', hlk, vm0, _, Y', I.wr ha W⟩ W (Keep.of_wr W) (Arv.set Ar q S N Hs G (fits_nar_char _) W i hi hl))
theorem own_stB (X : OSt Z EL a0 n0 h0 ws own bytes mx p l e R s m args below meth c sv T h k n) (pc' : Nat) {a : Addr} {kb : ClassId} {z j x x' : Int32} {vs : List Value} {dv : Value} (hd : decode bytes pc = .ok (.bastore, 1)) (A : Arv Z h a kb .byte z vs dv) (hx' : x.toInt8.toInt32 = x') (h1 : ¬ j < 0) (h2 : j < z) {i : Nat} (hi : j.toNatClampNeg = i) (hl : i < vs.length) (ha : a ∈ sv) (hq : pc' = pc + 1)
    (K : ∀ (T' : State) (h' : Heap), OSt Z EL a0 n0 h0 ws own bytes mx p l e R s m args below meth c sv T' h' k n → Wr h h' a j.toNatClampNeg (.int x') → Keep h h' [a] → Arv Z h' a kb .byte z (vs.set i (.int x')) dv → OGo p.tables e below P T' (mkF m pc' Ls st)) : OGo p.tables e below P T (mkF m pc Ls (.int x :: .int j :: .ref a :: st)) := by
  subst hq hx'
  obtain ⟨hx, hby, hml, eT, hlk, vm0, locs, Y, I⟩ := X
  obtain ⟨cl, Ar, q, S, N, Hs, G⟩ := A
  obtain ⟨T', h', Y', e', W, stp⟩ := stB Y hx (show Z.Warmed39 (s.setVm vm0).vm from I.2.2.2.2.1) eT Ar (j := j) (x := x) (own_inb S h1 h2) (g := mkF m pc Ls (.int x :: .int j :: .ref a :: st)) rfl rfl (hb hby hd)
  exact og stp (K T' h' ⟨hx, hby, hml, e', hlk, vm0, _, Y', I.wr ha W⟩ W (Keep.of_wr W) (Arv.set Ar q S N Hs G (fits_nar_byte _) W i hi hl))
theorem own_stR (X : OSt Z EL a0 n0 h0 ws own bytes mx p l e R s m args below meth c sv T h k n) (pc' : Nat) {a : Addr} {kb : ClassId} {ty : FieldType} {z j : Int32} {v : Value} {vs : List Value} {dv : Value} (hd : decode bytes pc = .ok (.aastore, 1)) (A : Arv Z h a kb ty z vs dv) (hty : ty.isReference = true) (hf : fits ty v = true) (F : Sto Z h a v) (h1 : ¬ j < 0) (h2 : j < z) {i : Nat} (hi : j.toNatClampNeg = i) (hl : i < vs.length) (ha : a ∈ sv) (hq : pc' = pc + 1)
    (K : ∀ (T' : State) (h' : Heap), OSt Z EL a0 n0 h0 ws own bytes mx p l e R s m args below meth c sv T' h' k n → Wr h h' a j.toNatClampNeg v → Keep h h' [a] → Arv Z h' a kb ty z (vs.set i v) dv → OGo p.tables e below P T' (mkF m pc' Ls st)) : OGo p.tables e below P T (mkF m pc Ls (v :: .int j :: .ref a :: st)) := by
  subst hq
  obtain ⟨hx, hby, hml, eT, hlk, vm0, locs, Y, I⟩ := X
  obtain ⟨cl, Ar, q, S, N, Hs, G⟩ := A
  obtain ⟨T', h', Y', e', W, stp⟩ := stR Y hx (show Z.Warmed39 (s.setVm vm0).vm from I.2.2.2.2.1) eT Ar (j := j) (v := v) (own_inb S h1 h2) hty F (g := mkF m pc Ls (v :: .int j :: .ref a :: st)) rfl rfl (hb hby hd)
  exact og stp (K T' h' ⟨hx, hby, hml, e', hlk, vm0, _, Y', I.wr ha W⟩ W (Keep.of_wr W) (Arv.set Ar q S N Hs G hf W i hi hl))
theorem own_len (X : OSt Z EL a0 n0 h0 ws own bytes mx p l e R s m args below meth c sv T h k n) (pc' : Nat) {a : Addr} {kb : ClassId} {ty : FieldType} {z : Int32} {vs : List Value} {dv : Value} (hd : decode bytes pc = .ok (.arraylength, 1)) (A : Arv Z h a kb ty z vs dv) (hq : pc' = pc + 1) (K : OGo p.tables e below P T (mkF m pc' Ls (.int z :: st))) : OGo p.tables e below P T (mkF m pc Ls (.ref a :: st)) := by
  subst hq
  obtain ⟨hx, hby, hml, eT, hlk, vm0, locs, Y, I⟩ := X
  obtain ⟨cl, Ar, q, S, N, Hs, G⟩ := A
  refine og (fun _ r => Y.arraylength hx (by rw [eT]; exact Ar.1) (State.isArrayOf_alike (show Z.Warmed39 (s.setVm vm0).vm from I.2.2.2.2.1).alike Ar.2.1) (g := mkF m pc Ls (.ref a :: st)) rfl rfl (hb hby hd) _ r) ?_
  rw [len_of S N]; exact K
theorem own_ldC (X : OSt Z EL a0 n0 h0 ws own bytes mx p l e R s m args below meth c sv T h k n) (pc' : Nat) {a : Addr} {kb : ClassId} {z j : Int32} {v : Value} {vs : List Value} {dv : Value} (hd : decode bytes pc = .ok (.caload, 1)) (A : Arv Z h a kb .char z vs dv) (h1 : ¬ j < 0) (h2 : j < z) (hv : vs.getD j.toNatClampNeg dv = v) (hq : pc' = pc + 1) (K : OGo p.tables e below P T (mkF m pc' Ls (v :: st))) : OGo p.tables e below P T (mkF m pc Ls (.int j :: .ref a :: st)) := by
  subst hq
  obtain ⟨hx, hby, hml, eT, hlk, vm0, locs, Y, I⟩ := X
  obtain ⟨cl, Ar, q, S, N, Hs, G⟩ := A
  exact og (fun _ r => Y.caload hx (j := j) (v := v) (by rw [eT]; exact Ar.1) (State.isArrayOf_alike (show Z.Warmed39 (s.setVm vm0).vm from I.2.2.2.2.1).alike Ar.2.1) Ar.2.2 (own_inb S h1 h2) (Hs.at (own_inb S h1 h2) hv) (g := mkF m pc Ls (.int j :: .ref a :: st)) rfl rfl (hb hby hd) _ r) K
theorem own_ldB (X : OSt Z EL a0 n0 h0 ws own bytes mx p l e R s m args below meth c sv T h k n) (pc' : Nat) {a : Addr} {kb : ClassId} {z j : Int32} {v : Value} {vs : List Value} {dv : Value} (hd : decode bytes pc = .ok (.baload, 1)) (A : Arv Z h a kb .byte z vs dv) (h1 : ¬ j < 0) (h2 : j < z) (hv : vs.getD j.toNatClampNeg dv = v) (hq : pc' = pc + 1) (K : OGo p.tables e below P T (mkF m pc' Ls (v :: st))) : OGo p.tables e below P T (mkF m pc Ls (.int j :: .ref a :: st)) := by
  subst hq
  obtain ⟨hx, hby, hml, eT, hlk, vm0, locs, Y, I⟩ := X
  obtain ⟨cl, Ar, q, S, N, Hs, G⟩ := A
  exact og (fun _ r => Y.baloadBytes hx (j := j) (v := v) (by rw [eT]; exact Ar.1) (State.isArrayOf_alike (show Z.Warmed39 (s.setVm vm0).vm from I.2.2.2.2.1).alike Ar.2.1) Ar.2.2 (own_inb S h1 h2) (Hs.at (own_inb S h1 h2) hv) (g := mkF m pc Ls (.int j :: .ref a :: st)) rfl rfl (hb hby hd) _ r) K
theorem own_ldR (X : OSt Z EL a0 n0 h0 ws own bytes mx p l e R s m args below meth c sv T h k n) (pc' : Nat) {a : Addr} {kb : ClassId} {ty : FieldType} {z j : Int32} {v : Value} {vs : List Value} {dv : Value} (hd : decode bytes pc = .ok (.aaload, 1)) (A : Arv Z h a kb ty z vs dv) (hty : ty.isReference = true) (h1 : ¬ j < 0) (h2 : j < z) (hv : vs.getD j.toNatClampNeg dv = v) (hq : pc' = pc + 1) (K : OGo p.tables e below P T (mkF m pc' Ls (v :: st))) : OGo p.tables e below P T (mkF m pc Ls (.int j :: .ref a :: st)) := by
  subst hq
  obtain ⟨hx, hby, hml, eT, hlk, vm0, locs, Y, I⟩ := X
  obtain ⟨cl, Ar, q, S, N, Hs, G⟩ := A
  exact og (fun _ r => Y.aaload hx (j := j) (v := v) (by rw [eT]; exact Ar.1) (State.isArrayOf_alike (show Z.Warmed39 (s.setVm vm0).vm from I.2.2.2.2.1).alike Ar.2.1) hty Ar.2.2 (own_inb S h1 h2) (Hs.at (own_inb S h1 h2) hv) (g := mkF m pc Ls (.int j :: .ref a :: st)) rfl rfl (hb hby hd) _ r) K
theorem own_ldcI (X : OSt Z EL a0 n0 h0 ws own bytes mx p l e R s m args below meth c sv T h k n) (pc' : Nat) {index : Nat} {v : Int32} (hd : decode bytes pc = .ok (.ldc index, 2)) (w : (Cond.constant own index v).before a0 Z = true) (hq : pc' = pc + 2) (K : OGo p.tables e below P T (mkF m pc' Ls (.int v :: st))) : OGo p.tables e below P T (mkF m pc Ls st) := by
  subst hq
  obtain ⟨hx, hby, hml, eT, hlk, vm0, locs, Y, I⟩ := X
  exact og (fun _ r => Y.ldcInt hx (show (s.setVm vm0).vm.findClass own = _ from I.2.2.2.2.2.1) (mvT (show Z.Warmed39 (s.setVm vm0).vm from I.2.2.2.2.1) w) (g := mkF m pc Ls st) rfl (hb hby hd) _ r) K
theorem own_instNull (X : OSt Z EL a0 n0 h0 ws own bytes mx p l e R s m args below meth c sv T h k n) (pc' : Nat) {index : Nat} (hd : decode bytes pc = .ok (.instanceof index, 3)) (hq : pc' = pc + 3) (K : OGo p.tables e below P T (mkF m pc' Ls (.int 0 :: st))) : OGo p.tables e below P T (mkF m pc Ls (.null :: st)) := by
  subst hq
  obtain ⟨hx, hby, hml, eT, hlk, vm0, locs, Y, I⟩ := X
  exact og (fun _ r => Y.instanceofNull hx (g := mkF m pc Ls (.null :: st)) rfl rfl (hb hby hd) _ r) K
theorem own_castNull (X : OSt Z EL a0 n0 h0 ws own bytes mx p l e R s m args below meth c sv T h k n) (pc' : Nat) {index : Nat} (hd : decode bytes pc = .ok (.checkcast index, 3)) (hq : pc' = pc + 3) (K : OGo p.tables e below P T (mkF m pc' Ls (.null :: st))) : OGo p.tables e below P T (mkF m pc Ls (.null :: st)) := by
  subst hq
  obtain ⟨hx, hby, hml, eT, hlk, vm0, locs, Y, I⟩ := X
  exact og (fun _ r => Y.checkcastNull hx (g := mkF m pc Ls (.null :: st)) rfl rfl (hb hby hd) _ r) K
theorem own_instNo (X : OSt Z EL a0 n0 h0 ws own bytes mx p l e R s m args below meth c sv T h k n) (pc' : Nat) {C C' : String} {index : Nat} {a : Addr} (hd : decode bytes pc = .ok (.instanceof index, 3)) (w : (Cond.classLink own index C).before a0 Z = true) (E : Exa Z h a C') (F : ∃ c t, Z.vm.findClass C' = some c ∧ Z.vm.findClass C = some t ∧ Z.vm.assignable c t = false) (hq : pc' = pc + 3)
    (K : ∀ (T' : State), OSt Z EL a0 n0 h0 ws own bytes mx p l e R s m args below meth c sv T' h k n → OGo p.tables e below P T' (mkF m pc' Ls (.int 0 :: st))) : OGo p.tables e below P T (mkF m pc Ls (.ref a :: st)) := by
  subst hq
  obtain ⟨hx, hby, hml, eT, hlk, vm0, locs, Y, I⟩ := X
  obtain ⟨T', Y', e', stp⟩ := instNo Y hx (show Z.Warmed39 (s.setVm vm0).vm from I.2.2.2.2.1) (show (s.setVm vm0).vm.findClass own = _ from I.2.2.2.2.2.1) w eT E F (g := mkF m pc Ls (.ref a :: st)) rfl rfl (hb hby hd)
  exact og stp (K T' ⟨hx, hby, hml, e', hlk, vm0, _, Y', I⟩)
theorem own_nsRoot {O C : String} {kk : Nat} (w : (Cond.noSuperclass O).before a0 Z = true) (wk : (Cond.instantiable C kk).before a0 Z = true) (hn : O ≠ C) : NS Z O C := by
  obtain ⟨c, k, h1, h2, h3, -, -⟩ := Cond.noSuperclass_spec w
  obtain ⟨t, k2, g1, -⟩ := Cond.instantiable_spec wk
  have ne := ids_ne h1 g1 hn
  refine ⟨c, t, h1, g1, fun fuel => ?_⟩
  cases fuel with
  | zero => rfl
  | succ f => simp [Vm.isSubclassAux, ne, h2, h3]
theorem own_nsNo {C S K' : String} {kk : Nat} (w : (Cond.superclass C S).before a0 Z = true) (wk : (Cond.instantiable K' kk).before a0 Z = true) (N : NS Z C K') (hn : C ≠ K') : ∃ c t, Z.vm.findClass C = some c ∧ Z.vm.findClass K' = some t ∧ Z.vm.assignable c t = false := by
  obtain ⟨c, t, h0, g0, n3⟩ := N
  obtain ⟨p, k, kp, h1, h2, h3, h4, h5, -, h7⟩ := Cond.superclass_spec h0 w
  obtain ⟨t', k2, g1, g2, g3, g4, -⟩ := Cond.instantiable_spec wk
  cases g0.symm.trans g1
  have ne := ids_ne h0 g0 hn
  have g5 : k2.isInterface = false := by
    cases hi : k2.isInterface with
    | false => rfl
    | true => rw [hi] at g4; simp at g4
  refine ⟨c, t, h0, g0, ?_⟩
  show Z.vm.assignableAux (255 + 1) c t = false
  simp [Vm.assignableAux, ne, h2, g2, h5, g3, g5, Vm.isSubclass, n3]
theorem own_ldc2L (X : OSt Z EL a0 n0 h0 ws own bytes mx p l e R s m args below meth c sv T h k n) (pc' : Nat) {index : Nat} {v : Int64} (hd : decode bytes pc = .ok (.ldc2_w index, 3)) (w : (Cond.constantLong own index v).before a0 Z = true) (hq : pc' = pc + 3) (K : OGo p.tables e below P T (mkF m pc' Ls (.long v :: st))) : OGo p.tables e below P T (mkF m pc Ls st) := by
  subst hq
  obtain ⟨hx, hby, hml, eT, hlk, vm0, locs, Y, I⟩ := X
  exact og (fun _ r => Y.ldc2Long hx (show (s.setVm vm0).vm.findClass own = _ from I.2.2.2.2.2.1) (mvT (show Z.Warmed39 (s.setVm vm0).vm from I.2.2.2.2.1) w) (g := mkF m pc Ls st) rfl (hb hby hd) _ r) K
theorem own_ldBox (X : OSt Z EL a0 n0 h0 ws own bytes mx p l e R s m args below meth c sv T h k n) (pc' : Nat) {a : Addr} {cl : Cell} {C d : String} {z j : Int32} {val : Int32 → Value} (hd : decode bytes pc = .ok (.aaload, 1)) (B : Bxs Z a cl C d z val) (h1 : ¬ j < 0) (h2 : j < z) (hq : pc' = pc + 1) (K : ∀ b : Addr, Exa Z h b C → Fld Z h b C "value" d (val j) → OGo p.tables e below P T (mkF m pc' Ls (.ref b :: st))) : OGo p.tables e below P T (mkF m pc Ls (.int j :: .ref a :: st)) := by
  subst hq
  have O1 := X.old
  obtain ⟨hx, hby, hml, eT, hlk, vm0, locs, Y, I⟩ := X
  obtain ⟨A, S, N, F⟩ := B
  obtain ⟨b, q1, q2, q3⟩ := F j (own_inb S h1 h2)
  exact og (fun _ r => Y.aaload hx (j := j) (v := .ref b) (by rw [eT]; exact (A.ext O1.2).1) (State.isArrayOf_alike (show Z.Warmed39 (s.setVm vm0).vm from I.2.2.2.2.1).alike A.2.1) rfl A.2.2 (own_inb S h1 h2) q1 (g := mkF m pc Ls (.int j :: .ref a :: st)) rfl rfl (hb hby hd) _ r) (K b (q2.ext O1.2) (q3.ext O1.2))
def OMet (l : Launch) (Z : State) (EL : List (String × Nat)) (n0 : Nat) (y : MethodName) (wc : List Jvm.Cond) (rm : Room) (as' : Array Value) (h0 : Heap) (ws : List Addr) (Q : Option Value → Heap → Prop) : Prop :=
  MetFree l y (head1 wc rm) (fun a U => a = as' ∧ Z.Warmed39 U.vm ∧ U.heap = h0 ∧ CHv Z EL U.vm h0 ∧ ∀ x ∈ ws, Safe Z EL U.vm h0 x) (fun _ _ _ _ _ => True) (fun _ U o U' => OEnd Z EL n0 h0 ws U Q rm.cells rm.slots o U')
theorem own_enter {y : MethodName} {ret : Option FieldType} {wc : List Jvm.Cond} {rm : Room} {as' : Array Value} {Q : Option Value → Heap → Prop} (Ls : Array Slot) (hn : plainFor y = true) (ef : ∀ m, entryFrame m as' mx = mkF m 0 Ls []) (hEL : EW Z a0 EL) (O : Old Z n0 h0) (hlt : ∀ x ∈ ws, n0 ≤ x ∧ x < h0.size)
    (K : ∀ (p : Program) (e : Env) (s : State) (m : MethodId) (below : List Frame) (meth : Method) (c : Code) (T : State), OSt Z EL a0 n0 h0 ws y.cls bytes mx p l e rm s m as' below meth c ws T h0 0 0 → meth.name = y.name → meth.sig.returnType = ret → OGo p.tables e below (OEnd Z EL n0 h0 ws s Q rm.cells rm.slots) T (mkF m 0 Ls [])) :
    OMet l Z EL n0 y (Jvm.Cond.code y bytes mx ret :: wc) rm as' h0 ws Q := by
  refine MetFree.of_bodySF hn hisR ?_
  intro p e s m args below meth c s₁ Bd hml hP _
  obtain ⟨rfl, hZ, hh, hC, hS⟩ := hP
  have Y : Stand p l e rm (s.setVm s.vm) m args below meth c s₁ [] 0 0 := Stand.of_body Bd
  have hown := findClass_of_methodNamed Bd.named
  have e0 : s₁.heap = h0 := by rw [← hh, Bd.state]; rfl
  obtain ⟨t, o, g1, g2⟩ := K p e s m below meth c s₁ ⟨Bd.exec, Bd.bytes, hml, e0, Bd.notSynchronized, s.vm, [], Y, hh, O, Keep.refl _ _, ⟨_, (State.WarmedH.refl s).since _, Nat.le_refl _⟩, hZ, hown, hEL, by rw [hh]; exact CHr.refl hC, fun _ => rfl, Fr.nil _, fun x hx => ⟨(hlt x hx).1, (hlt x hx).2, Or.inl hx, hS x hx⟩⟩ (name_of_methodNamed Bd.named Bd.method).1 Bd.returns
  exact ⟨t, o, castTop (ef m) g1, g2⟩
theorem own_leave (X : OSt Z EL a0 n0 h0 ws own bytes mx p l e R s m args below meth c sv T h k n) {v : Option Value} {Q : Option Value → Heap → Prop} {k' n' : Nat} (hv : meth.sig.returnType = none → v = none) (hk : k ≤ k') (hn : n ≤ n') (hQ : Q v h) :
    ∃ fs, (∀ (f : JFrame) (acts : List Action), f.method = m → f.locked = none → f.entered = [] → (doReturn e (T.setTop f) acts v).1 = T.setFrames fs) ∧ (T.setFrames fs).status = .running ∧ Ended (T.setFrames fs) below (.returned v) ∧ OEnd Z EL n0 h0 ws s Q k' n' (.returned v) (T.setFrames fs) := by
  obtain ⟨hx, hby, hml, eT, hlk, vm0, locs, Y, b1, b2, b3, ⟨k0, b4, b4'⟩, b5, b6, b7, b8, b9, b10, b11⟩ := X.more hk hn
  obtain ⟨fs, h1, h2, h3, hW, hs⟩ := Y.leave hv hlk
  have C := CHv.at Y b5 b7 b8.1
  obtain ⟨q1, q2, q3⟩ := b4.ended (U := T.setFrames fs) hW (by show k0 ≤ T.heap.size; rw [eT]; exact b4') hs
  refine ⟨fs, h1, h2, h3, v, locs, rfl, ⟨b10, by show Keep h0 T.heap ws; rw [eT]; exact b3, by show Q v T.heap; rw [eT]; exact hQ⟩, by show CHr Z EL s.vm s.heap T.vm T.heap; rw [eT]; exact b8.trans C, ⟨⟨v, rfl⟩, q1, q2, q3⟩, fun hnil => ?_⟩
  have := b9 hnil
  subst this
  exact ⟨⟨v, rfl⟩, hW, hs⟩
theorem own_retV (X : OSt Z EL a0 n0 h0 ws own bytes mx p l e R s m args below meth c sv T h k n) {Q : Option Value → Heap → Prop} {k' n' : Nat} (hd : decode bytes pc = .ok (.return_, 1)) (hret : meth.sig.returnType = none) (hk : k ≤ k') (hn : n ≤ n') (hQ : Q none h) : OGo p.tables e below (OEnd Z EL n0 h0 ws s Q k' n') T (mkF m pc Ls []) := by
  obtain ⟨fs, h1, h2, h3, h4⟩ := own_leave X (fun _ => rfl) hk hn hQ
  have X' := X
  obtain ⟨hx, hby, hml, eT, hlk, vm0, locs, Y, -⟩ := X'
  exact ⟨_, _, Y.returnOut hx hret (hb hby hd) h1, h2, h3, h4⟩
theorem own_ret (X : OSt Z EL a0 n0 h0 ws own bytes mx p l e R s m args below meth c sv T h k n) {Q : Option Value → Heap → Prop} {k' n' : Nat} {t : FieldType} {w : Value} {i : Instr} (hd : decode bytes pc = .ok (i, 1)) (hret : meth.sig.returnType = some t) (hnw : narrow t w = w)
    (hi : (i = .ireturn ∧ (t = .int ∨ t = .boolean ∨ t = .byte ∨ t = .char ∨ t = .short) ∧ ∃ z, w = .int z) ∨ (i = .lreturn ∧ t = .long ∧ ∃ z, w = .long z) ∨ (i = .dreturn ∧ t = .double ∧ ∃ z, w = .double z) ∨ (i = .freturn ∧ t = .float ∧ ∃ z, w = .float z) ∨ (i = .areturn ∧ t.isReference = true ∧ w.isRef = true))
    (hk : k ≤ k') (hn : n ≤ n') (hQ : Q (some w) h) : OGo p.tables e below (OEnd Z EL n0 h0 ws s Q k' n') T (mkF m pc Ls (w :: st)) := by
  obtain ⟨fs, h1, h2, h3, h4⟩ := own_leave X (fun q => by rw [hret] at q; cases q) hk hn hQ
  have X' := X
  obtain ⟨hx, hby, hml, eT, hlk, vm0, locs, Y, -⟩ := X'
  exact ⟨_, _, retOut Y hx hret hnw hi (hb hby hd) h1, h2, h3, h4⟩
theorem own_retI (X : OSt Z EL a0 n0 h0 ws own bytes mx p l e R s m args below meth c sv T h k n) {Q : Option Value → Heap → Prop} {k' n' : Nat} {z : Int32} (hd : decode bytes pc = .ok (.ireturn, 1)) (hret : meth.sig.returnType = some .int) (hk : k ≤ k') (hn : n ≤ n') (hQ : Q (some (.int z)) h) : OGo p.tables e below (OEnd Z EL n0 h0 ws s Q k' n') T (mkF m pc Ls (.int z :: st)) :=
  own_ret X hd hret rfl (Or.inl ⟨rfl, Or.inl rfl, z, rfl⟩) hk hn hQ
theorem own_retZ (X : OSt Z EL a0 n0 h0 ws own bytes mx p l e R s m args below meth c sv T h k n) {Q : Option Value → Heap → Prop} {k' n' : Nat} {z : Int32} (hd : decode bytes pc = .ok (.ireturn, 1)) (hret : meth.sig.returnType = some .boolean) (hz : narrow .boolean (.int z) = .int z) (hk : k ≤ k') (hn : n ≤ n') (hQ : Q (some (.int z)) h) : OGo p.tables e below (OEnd Z EL n0 h0 ws s Q k' n') T (mkF m pc Ls (.int z :: st)) :=
  own_ret X hd hret hz (Or.inl ⟨rfl, Or.inr (Or.inl rfl), z, rfl⟩) hk hn hQ
theorem own_retC (X : OSt Z EL a0 n0 h0 ws own bytes mx p l e R s m args below meth c sv T h k n) {Q : Option Value → Heap → Prop} {k' n' : Nat} {z : Int32} (hd : decode bytes pc = .ok (.ireturn, 1)) (hret : meth.sig.returnType = some .char) (hz : narrow .char (.int z) = .int z) (hk : k ≤ k') (hn : n ≤ n') (hQ : Q (some (.int z)) h) : OGo p.tables e below (OEnd Z EL n0 h0 ws s Q k' n') T (mkF m pc Ls (.int z :: st)) :=
  own_ret X hd hret hz (Or.inl ⟨rfl, Or.inr (Or.inr (Or.inr (Or.inl rfl))), z, rfl⟩) hk hn hQ
theorem own_retY (X : OSt Z EL a0 n0 h0 ws own bytes mx p l e R s m args below meth c sv T h k n) {Q : Option Value → Heap → Prop} {k' n' : Nat} {z : Int32} (hd : decode bytes pc = .ok (.ireturn, 1)) (hret : meth.sig.returnType = some .byte) (hz : narrow .byte (.int z) = .int z) (hk : k ≤ k') (hn : n ≤ n') (hQ : Q (some (.int z)) h) : OGo p.tables e below (OEnd Z EL n0 h0 ws s Q k' n') T (mkF m pc Ls (.int z :: st)) :=
  own_ret X hd hret hz (Or.inl ⟨rfl, Or.inr (Or.inr (Or.inl rfl)), z, rfl⟩) hk hn hQ
theorem own_retL (X : OSt Z EL a0 n0 h0 ws own bytes mx p l e R s m args below meth c sv T h k n) {Q : Option Value → Heap → Prop} {k' n' : Nat} {z : Int64} (hd : decode bytes pc = .ok (.lreturn, 1)) (hret : meth.sig.returnType = some .long) (hk : k ≤ k') (hn : n ≤ n') (hQ : Q (some (.long z)) h) : OGo p.tables e below (OEnd Z EL n0 h0 ws s Q k' n') T (mkF m pc Ls (.long z :: st)) :=
  own_ret X hd hret rfl (Or.inr (Or.inl ⟨rfl, rfl, z, rfl⟩)) hk hn hQ
theorem own_narR {t : FieldType} {w : Value} (ht : t.isReference = true) (hw : w.isRef = true) : narrow t w = w := by
  rcases ref_cases hw with rfl | ⟨a, rfl⟩ <;> cases t <;> first | rfl | cases ht
theorem own_retA (X : OSt Z EL a0 n0 h0 ws own bytes mx p l e R s m args below meth c sv T h k n) {Q : Option Value → Heap → Prop} {k' n' : Nat} {t : FieldType} {w : Value} (hd : decode bytes pc = .ok (.areturn, 1)) (hret : meth.sig.returnType = some t) (ht : t.isReference = true) (hw : w.isRef = true) (hk : k ≤ k') (hn : n ≤ n') (hQ : Q (some w) h) : OGo p.tables e below (OEnd Z EL n0 h0 ws s Q k' n') T (mkF m pc Ls (w :: st)) :=
  own_ret X hd hret (own_narR ht hw) (Or.inr (Or.inr (Or.inr (Or.inr ⟨rfl, ht, hw⟩)))) hk hn hQ
theorem own_payN {vm0 : Vm} {y : MethodName} {maxL : Nat} {ret : Option FieldType} {rm : Room} {len W : Nat} {as' : Array Value} {ws' : List Addr} {Q : Option Value → Heap → Prop} {bc : ByteArray} (hnil : EL = []) (hM : OMet l Z EL n0 y [Jvm.Cond.code y bc maxL ret] rm as' h ws' Q) (hZ : Z.Warmed39 vm0) (wc : (Cond.code y bc maxL ret).before a0 Z = true) (wz : (Cond.initialized y.cls).before a0 Z = true) (hf : rm.frames + 1 ≤ R.frames) (hl : W + (maxL + 11) + rm.locals ≤ R.locals) (hEL : EW Z a0 EL) (H : CHv Z EL vm0 h) (hS : ∀ x ∈ ws', x < h.size ∧ Safe Z EL vm0 h x) :
    Back l R p e below (s.setVm vm0) args y len W (fun A a => a = as' ∧ A.U.heap = h ∧ A.cells + rm.cells ≤ R.cells ∧ A.slots + rm.slots ≤ R.slots)
      (fun A _ v B => ∃ L, (Fr n0 L ∧ Keep h B.U.heap ws' ∧ Q v B.U.heap) ∧ B.locs = A.locs ++ L ∧ B.cells = A.cells + rm.cells ∧ B.slots = A.slots + rm.slots) :=
  Back.of_free (bytes := bc) (maxL := maxL) (ret := ret) (E := fun _ _ o t L k n => k = rm.cells ∧ n = rm.slots ∧ ∃ v, o = .returned v ∧ (Fr n0 L ∧ Keep h t.heap ws' ∧ Q v t.heap)) hM hf hl
    (fun m meth c A a Y hp => have hU : Z.Warmed39 A.U.vm := wtrans (s := s.setVm vm0) hZ Y.warmed
      ⟨by show (Cond.and _ .tt).before a A.U = true; rw [Cond.before_and, mv hU wc]; rfl, mv hU wc, mv hU wz, hp.2.2.1, hp.2.2.2⟩)
    (fun m meth c A a g mk Y hp => ⟨hp.1, wtrans (s := s.setVm vm0) hZ Y.warmed, hp.2.1, (CHv.at Y hZ hEL H).1, fun x hx => (CHv.at Y hZ hEL H).safe (hS x hx).1 (hS x hx).2⟩) (fun _ _ _ _ _ _ _ _ _ => trivial)
    (fun _ _ _ _ ⟨v, L, h1, h2, _, _, h3⟩ => ⟨L, _, _, h3 hnil, rfl, rfl, v, h1, h2⟩)
    (fun m meth c A a g mk v t L k n Y hp _ _ ⟨e1, e2, v', e3, e4⟩ => by cases e3; subst e1 e2; exact ⟨L, e4, rfl, rfl, rfl⟩)
theorem own_payW {vm0 : Vm} {y : MethodName} {maxL : Nat} {ret : Option FieldType} {rm : Room} {len W : Nat} {as' : Array Value} {ws' : List Addr} {Q : Option Value → Heap → Prop} {bc : ByteArray} (hM : OMet l Z EL n0 y [Jvm.Cond.code y bc maxL ret] rm as' h ws' Q) (hZ : Z.Warmed39 vm0) (wc : (Cond.code y bc maxL ret).before a0 Z = true) (wz : (Cond.initialized y.cls).before a0 Z = true) (hf : rm.frames + 1 ≤ R.frames) (hl : W + (maxL + 11) + rm.locals ≤ R.locals) (hEL : EW Z a0 EL) (H : CHv Z EL vm0 h) (hS : ∀ x ∈ ws', x < h.size ∧ Safe Z EL vm0 h x) :
    BackS l R p e below (s.setVm vm0) args y len W (fun A a => a = as' ∧ A.U.heap = h ∧ A.cells + rm.cells ≤ R.cells ∧ A.slots + rm.slots ≤ R.slots)
      (fun A _ v B => ∃ L, (Fr n0 L ∧ Keep h B.U.heap ws' ∧ Q v B.U.heap) ∧ B.locs = A.locs ++ L ∧ B.cells = A.cells + rm.cells ∧ B.slots = A.slots + rm.slots ∧ CHr Z EL vm0 h B.U.vm B.U.heap) :=
  BackS.of_freeW (bytes := bc) (maxL := maxL) (ret := ret) (E := fun _ first o t L k n => k = rm.cells ∧ n = rm.slots ∧ (∃ v, o = .returned v ∧ (Fr n0 L ∧ Keep h t.heap ws' ∧ Q v t.heap)) ∧ CHr Z EL first.vm first.heap t.vm t.heap) hM hf hl
    (fun m meth c A a Y hp => have hU : Z.Warmed39 A.U.vm := wtrans (s := s.setVm vm0) hZ Y.warmed
      ⟨by show (Cond.and _ .tt).before a A.U = true; rw [Cond.before_and, mv hU wc]; rfl, mv hU wc, mv hU wz, hp.2.2.1, hp.2.2.2⟩)
    (fun m meth c A a g mk Y hp => ⟨hp.1, wtrans (s := s.setVm vm0) hZ Y.warmed, hp.2.1, (CHv.at Y hZ hEL H).1, fun x hx => (CHv.at Y hZ hEL H).safe (hS x hx).1 (hS x hx).2⟩) (fun _ _ _ _ _ _ _ _ _ => trivial)
    (fun _ _ _ _ ⟨v, L, h1, h2, h3, h4, _⟩ => ⟨L, _, _, h4, rfl, rfl, ⟨v, h1, h2⟩, h3⟩)
    (fun m meth c A a g mk v t L k n Y hp _ _ ⟨e1, e2, ⟨v', e3, e4⟩, e5⟩ => by
      cases e3; subst e1 e2
      refine ⟨L, e4, rfl, rfl, rfl, (CHv.at Y hZ hEL H).trans ?_⟩
      rw [← hp.2.1]; exact e5)
theorem own_stat (X : OSt Z EL a0 n0 h0 ws own bytes mx p l e R s m args below meth c sv T h k n) (pc' : Nat) {y : MethodName} {index maxL W : Nat} {ret : Option FieldType} {rm : Room} {as' : Array Value} {ws' : List Addr} {Q : Option Value → Heap → Prop} {bc : ByteArray} {argsL rest : List Value} (hd : decode bytes pc = .ok (.invokestatic index, 3)) (hM : OMet l Z EL n0 y [Jvm.Cond.code y bc maxL ret] rm as' h ws' Q) (w1 : (Cond.methodLink own index y).before a0 Z = true) (w2 : (Cond.static y).before a0 Z = true) (wz : (Cond.initialized y.cls).before a0 Z = true) (wc : (Cond.code y bc maxL ret).before a0 Z = true) (hy : y.cls ≠ "java/lang/invoke/MethodHandle" ∧ y.cls ≠ "java/lang/invoke/VarHandle")
    (hlen : ∀ sig, parseMethodDescriptor y.desc = some sig → argsL.length = sig.parameters.length) (hst : st = argsL.reverse ++ rest) (has : argsL.toArray = as') (hsz : Ls.size = mx) (hW : (rest.map fun v => v.category).sum = W) (hf : rm.frames + 1 ≤ R.frames) (hl : W + (maxL + 11) + rm.locals ≤ R.locals) (hc : k + rm.cells ≤ R.cells) (hs : n + rm.slots ≤ R.slots) (hsv : ∀ x ∈ ws', x ∈ sv) (hq : pc' = pc + 3)
    (K : ∀ (T' : State) (h' : Heap) (v : Option Value), OSt Z EL a0 n0 h0 ws own bytes mx p l e R s m args below meth c sv T' h' (k + rm.cells) (n + rm.slots) → Keep h h' ws' → Q v h' → OGo p.tables e below P T' (mkF m pc' Ls (v.toList ++ rest))) : OGo p.tables e below P T (mkF m pc Ls st) := by
  subst hq
  obtain ⟨hx, hby, hml, eT, hlk, vm0, locs, Y, I⟩ := X
  have I0 := I
  obtain ⟨b1, b2, b3, b4, b5, b6, b7, b8, b9, b10, b11⟩ := I0
  have hS : ∀ x ∈ ws', x < h.size ∧ Safe Z EL vm0 h x := fun x hx => ⟨(b11 x (hsv x hx)).2.1, (b11 x (hsv x hx)).2.2.2⟩
  have hZ : Z.Warmed39 (s.setVm vm0).vm := b5
  have hW' : 2 * (mkF m pc Ls st).monitorRoom + (rest.map fun v => v.category).sum ≤ W := by show 2 * 0 + _ ≤ _; rw [hW]; omega
  by_cases hnil : EL = []
  · obtain ⟨v, vm₁, ⟨U, L', k', n'⟩, -, Y', ⟨L, ⟨q1, q2, q3⟩, l1, l2, l3⟩, stp⟩ := Jvm.LawKit.callS Y hx (y := y) (show (s.setVm vm0).vm.findClass own = _ from b6) (mvT hZ w1) (mvT hZ w2) (mvT hZ wz) (mvT hZ wc) hy (own_payN hnil hM b5 wc wz hf hl b7 b8.1 hS) (g := mkF m pc Ls st) rfl (by rw [hml]; exact hsz) (argsL := argsL) (rest := rest) hlen hst hW' (hb hby hd) (fun _ _ => ⟨has, eT, hc, hs⟩)
    dsimp only [Pt.U, Pt.locs, Pt.cells, Pt.slots] at Y' l1 l2 l3 q1 q2 q3 stp
    subst l1 l2 l3
    exact og stp (K U U.heap v ⟨hx, hby, hml, rfl, hlk, vm0, _, Y', I.keep q2 hsv q1⟩ q2 q3)
  · obtain ⟨v, vm₁, ⟨U, L', k', n'⟩, -, Y', S', g', ⟨L, ⟨q1, q2, q3⟩, l1, l2, l3, C⟩, stp⟩ := callSS Y hx (y := y) (show (s.setVm vm0).vm.findClass own = _ from b6) (mvT hZ w1) (mvT hZ w2) (mvT hZ wz) (mvT hZ wc) hy (own_payW hM b5 wc wz hf hl b7 b8.1 hS) (g := mkF m pc Ls st) rfl (by rw [hml]; exact hsz) (argsL := argsL) (rest := rest) hlen hst hW' (hb hby hd) (fun _ _ => ⟨has, eT, hc, hs⟩)
    dsimp only [Pt.U, Pt.locs, Pt.cells, Pt.slots] at Y' l1 l2 l3 q1 q2 q3 stp S' g' C
    subst l1 l2 l3
    exact og (fun _ q => stp.trans q) (K U U.heap v ⟨hx, hby, hml, rfl, hlk, U.vm, _, Y', I.call q2 hsv q1 C S' (fun q => absurd q hnil)⟩ q2 q3)
theorem own_spec (X : OSt Z EL a0 n0 h0 ws own bytes mx p l e R s m args below meth c sv T h k n) (pc' : Nat) {y : MethodName} {index maxL W : Nat} {rm : Room} {as' : Array Value} {ws' : List Addr} {Q : Option Value → Heap → Prop} {bc : ByteArray} {a : Addr} {argsL rest : List Value} (hd : decode bytes pc = .ok (.invokespecial index, 3)) (hy1 : y.name = "<init>") (hM : OMet l Z EL n0 y [Jvm.Cond.code y bc maxL none] rm as' h ws' Q) (w1 : (Cond.methodLink own index y).before a0 Z = true) (w2 : (Cond.instanceMethod y).before a0 Z = true) (wz : (Cond.initialized y.cls).before a0 Z = true) (wc : (Cond.code y bc maxL none).before a0 Z = true) (hy : y.cls ≠ "java/lang/invoke/MethodHandle" ∧ y.cls ≠ "java/lang/invoke/VarHandle")
    (hlen : ∀ sig, parseMethodDescriptor y.desc = some sig → argsL.length = sig.parameters.length) (hst : st = argsL.reverse ++ .ref a :: rest) (has : (.ref a :: argsL).toArray = as') (hsz : Ls.size = mx) (hW : (rest.map fun v => v.category).sum = W) (hf : rm.frames + 1 ≤ R.frames) (hl : W + (maxL + 11) + rm.locals ≤ R.locals) (hc : k + rm.cells ≤ R.cells) (hs : n + rm.slots ≤ R.slots) (hsv : ∀ x ∈ ws', x ∈ sv) (hq : pc' = pc + 3)
    (K : ∀ (T' : State) (h' : Heap) (v : Option Value), OSt Z EL a0 n0 h0 ws own bytes mx p l e R s m args below meth c sv T' h' (k + rm.cells) (n + rm.slots) → Keep h h' ws' → Q v h' → OGo p.tables e below P T' (mkF m pc' Ls (v.toList ++ rest))) : OGo p.tables e below P T (mkF m pc Ls st) := by
  subst hq
  obtain ⟨hx, hby, hml, eT, hlk, vm0, locs, Y, I⟩ := X
  have I0 := I
  obtain ⟨b1, b2, b3, b4, b5, b6, b7, b8, b9, b10, b11⟩ := I0
  have hS : ∀ x ∈ ws', x < h.size ∧ Safe Z EL vm0 h x := fun x hx => ⟨(b11 x (hsv x hx)).2.1, (b11 x (hsv x hx)).2.2.2⟩
  have hZ : Z.Warmed39 (s.setVm vm0).vm := b5
  have hW' : 2 * (mkF m pc Ls st).monitorRoom + (rest.map fun v => v.category).sum ≤ W := by show 2 * 0 + _ ≤ _; rw [hW]; omega
  by_cases hnil : EL = []
  · obtain ⟨v, vm₁, ⟨U, L', k', n'⟩, -, Y', ⟨L, ⟨q1, q2, q3⟩, l1, l2, l3⟩, stp⟩ := Y.specialBack hx (y := y) hy1 (show (s.setVm vm0).vm.findClass own = _ from b6) (mvT hZ w1) (mvT hZ w2) (mvT hZ wc) hy (own_payN hnil hM b5 wc wz hf hl b7 b8.1 hS) (g := mkF m pc Ls st) rfl (by rw [hml]; exact hsz) (Steps.refl _) (a := a) (argsL := argsL) (rest := rest) hlen hst hW' (hb hby hd) (fun _ _ => ⟨has, eT, hc, hs⟩)
    dsimp only [Pt.U, Pt.locs, Pt.cells, Pt.slots] at Y' l1 l2 l3 q1 q2 q3 stp
    subst l1 l2 l3
    exact og (fun _ q => stp.trans q) (K U U.heap v ⟨hx, hby, hml, rfl, hlk, vm0, _, Y', I.keep q2 hsv q1⟩ q2 q3)
  · obtain ⟨v, vm₁, ⟨U, L', k', n'⟩, -, Y', S', g', ⟨L, ⟨q1, q2, q3⟩, l1, l2, l3, C⟩, stp⟩ := Y.specialBackS hx (y := y) hy1 (show (s.setVm vm0).vm.findClass own = _ from b6) (mvT hZ w1) (mvT hZ w2) (mvT hZ wc) hy (own_payW hM b5 wc wz hf hl b7 b8.1 hS) (g := mkF m pc Ls st) rfl (by rw [hml]; exact hsz) (Steps.refl _) (a := a) (argsL := argsL) (rest := rest) hlen hst hW' (hb hby hd) (fun _ _ => ⟨has, eT, hc, hs⟩)
    dsimp only [Pt.U, Pt.locs, Pt.cells, Pt.slots] at Y' l1 l2 l3 q1 q2 q3 stp S' g' C
    subst l1 l2 l3
    exact og (fun _ q => stp.trans q) (K U U.heap v ⟨hx, hby, hml, rfl, hlk, U.vm, _, Y', I.call q2 hsv q1 C S' (fun q => absurd q hnil)⟩ q2 q3)
theorem own_virt (X : OSt Z EL a0 n0 h0 ws own bytes mx p l e R s m args below meth c sv T h k n) (pc' : Nat) {y z : MethodName} {C : String} {index maxL W : Nat} {ret : Option FieldType} {rm : Room} {as' : Array Value} {ws' : List Addr} {Q : Option Value → Heap → Prop} {bc : ByteArray} {a : Addr} {argsL rest : List Value} (hd : decode bytes pc = .ok (.invokevirtual index, 3)) (E : Exa Z h a C) (hnf : ∀ vm0, Z.Warmed39 (s.setVm vm0).vm → NotFace (s.setVm vm0) y) (hM : OMet l Z EL n0 z [Jvm.Cond.code z bc maxL ret] rm as' h ws' Q) (w1 : (Cond.methodLink own index y).before a0 Z = true) (w2 : (Cond.declares y).before a0 Z = true) (w3 : (Cond.selects C y z).before a0 Z = true) (w4 : (Cond.instanceMethod z).before a0 Z = true) (wz : (Cond.initialized z.cls).before a0 Z = true) (wc : (Cond.code z bc maxL ret).before a0 Z = true) (hy : y.cls ≠ "java/lang/invoke/MethodHandle" ∧ y.cls ≠ "java/lang/invoke/VarHandle")
    (hlen : ∀ sig, parseMethodDescriptor y.desc = some sig → argsL.length = sig.parameters.length) (hst : st = argsL.reverse ++ .ref a :: rest) (has : (.ref a :: argsL).toArray = as') (hsz : Ls.size = mx) (hW : (rest.map fun v => v.category).sum = W) (hf : rm.frames + 1 ≤ R.frames) (hl : W + (maxL + 11) + rm.locals ≤ R.locals) (hc : k + rm.cells ≤ R.cells) (hs : n + rm.slots ≤ R.slots) (hsv : ∀ x ∈ ws', x ∈ sv) (hq : pc' = pc + 3)
    (K : ∀ (T' : State) (h' : Heap) (v : Option Value), OSt Z EL a0 n0 h0 ws own bytes mx p l e R s m args below meth c sv T' h' (k + rm.cells) (n + rm.slots) → Keep h h' ws' → Q v h' → OGo p.tables e below P T' (mkF m pc' Ls (v.toList ++ rest))) : OGo p.tables e below P T (mkF m pc Ls st) := by
  subst hq
  obtain ⟨hx, hby, hml, eT, hlk, vm0, locs, Y, I⟩ := X
  have I0 := I
  obtain ⟨b1, b2, b3, b4, b5, b6, b7, b8, b9, b10, b11⟩ := I0
  have hS : ∀ x ∈ ws', x < h.size ∧ Safe Z EL vm0 h x := fun x hx => ⟨(b11 x (hsv x hx)).2.1, (b11 x (hsv x hx)).2.2.2⟩
  have hZ : Z.Warmed39 (s.setVm vm0).vm := b5
  have hW' : 2 * (mkF m pc Ls st).monitorRoom + (rest.map fun v => v.category).sum ≤ W := by show 2 * 0 + _ ≤ _; rw [hW]; omega
  obtain ⟨cq, kq, qa, qb, qc⟩ := isOf (s := s.setVm vm0) hZ eT E
  by_cases hnil : EL = []
  · obtain ⟨v, vm₁, ⟨U, L', k', n'⟩, -, Y', ⟨L, ⟨q1, q2, q3⟩, l1, l2, l3⟩, stp⟩ := Y.virtualBack hx (y := y) (z := z) (show (s.setVm vm0).vm.findClass own = _ from b6) (mvT hZ w1) (mvT hZ w2) (hnf vm0 hZ) (mvT hZ w3) (mvT hZ w4) hy (own_payN hnil hM b5 wc wz hf hl b7 b8.1 hS) qa qc (g := mkF m pc Ls st) rfl (by rw [hml]; exact hsz) (Steps.refl _) (argsL := argsL) (rest := rest) hlen hst hW' (hb hby hd) (fun _ _ => ⟨has, eT, hc, hs⟩)
    dsimp only [Pt.U, Pt.locs, Pt.cells, Pt.slots] at Y' l1 l2 l3 q1 q2 q3 stp
    subst l1 l2 l3
    exact og (fun _ q => stp.trans q) (K U U.heap v ⟨hx, hby, hml, rfl, hlk, vm0, _, Y', I.keep q2 hsv q1⟩ q2 q3)
  · obtain ⟨v, vm₁, ⟨U, L', k', n'⟩, -, Y', S', g', ⟨L, ⟨q1, q2, q3⟩, l1, l2, l3, C⟩, stp⟩ := Y.virtualBackS hx (y := y) (z := z) (show (s.setVm vm0).vm.findClass own = _ from b6) (mvT hZ w1) (mvT hZ w2) (hnf vm0 hZ) (mvT hZ w3) (mvT hZ w4) hy (own_payW hM b5 wc wz hf hl b7 b8.1 hS) qa qc (g := mkF m pc Ls st) rfl (by rw [hml]; exact hsz) (Steps.refl _) (argsL := argsL) (rest := rest) hlen hst hW' (hb hby hd) (fun _ _ => ⟨has, eT, hc, hs⟩)
    dsimp only [Pt.U, Pt.locs, Pt.cells, Pt.slots] at Y' l1 l2 l3 q1 q2 q3 stp S' g' C
    subst l1 l2 l3
    exact og (fun _ q => stp.trans q) (K U U.heap v ⟨hx, hby, hml, rfl, hlk, U.vm, _, Y', I.call q2 hsv q1 C S' (fun q => absurd q hnil)⟩ q2 q3)
theorem own_specB (X : OSt Z EL a0 n0 h0 ws own bytes mx p l e R s m args below meth c sv T h k n) (pc' : Nat) {y : MethodName} {index maxL W rc rs : Nat} {as' : Array Value} {ws' : List Addr} {Q : Option Value → Heap → List Loc → Prop} {bc : ByteArray} {a : Addr} {argsL rest : List Value} (hd : decode bytes pc = .ok (.invokespecial index, 3)) (hy1 : y.name = "<init>")
    (hK : ∀ vm0, Z.Warmed39 (s.setVm vm0).vm → Back l R p e below (s.setVm vm0) args y 3 W (fun A a => a = as' ∧ A.U.heap = h ∧ A.cells + rc ≤ R.cells ∧ A.slots + rs ≤ R.slots) (fun A _ v B => ∃ L, Q v B.U.heap L ∧ B.locs = A.locs ++ L ∧ B.cells = A.cells + rc ∧ B.slots = A.slots + rs)) (hQ : ∀ v h' L, Q v h' L → Fr n0 L ∧ Keep h h' ws')
    (w1 : (Cond.methodLink own index y).before a0 Z = true) (w2 : (Cond.instanceMethod y).before a0 Z = true) (wc : (Cond.code y bc maxL none).before a0 Z = true) (hy : y.cls ≠ "java/lang/invoke/MethodHandle" ∧ y.cls ≠ "java/lang/invoke/VarHandle")
    (hlen : ∀ sig, parseMethodDescriptor y.desc = some sig → argsL.length = sig.parameters.length) (hst : st = argsL.reverse ++ .ref a :: rest) (has : (.ref a :: argsL).toArray = as') (hsz : Ls.size = mx) (hW : (rest.map fun v => v.category).sum = W) (hc : k + rc ≤ R.cells) (hs : n + rs ≤ R.slots) (hsv : ∀ x ∈ ws', x ∈ sv) (hq : pc' = pc + 3)
    (K : ∀ (T' : State) (h' : Heap) (v : Option Value) (L : List Loc), OSt Z EL a0 n0 h0 ws own bytes mx p l e R s m args below meth c sv T' h' (k + rc) (n + rs) → Keep h h' ws' → Q v h' L → OGo p.tables e below P T' (mkF m pc' Ls (v.toList ++ rest))) : OGo p.tables e below P T (mkF m pc Ls st) := by
  subst hq
  obtain ⟨hx, hby, hml, eT, hlk, vm0, locs, Y, I⟩ := X
  have hZ : Z.Warmed39 (s.setVm vm0).vm := I.2.2.2.2.1
  have hW' : 2 * (mkF m pc Ls st).monitorRoom + (rest.map fun v => v.category).sum ≤ W := by show 2 * 0 + _ ≤ _; rw [hW]; omega
  obtain ⟨v, vm₁, ⟨U, L', k', n'⟩, -, Y', ⟨L, q, l1, l2, l3⟩, stp⟩ := Y.specialBack hx (y := y) hy1 (show (s.setVm vm0).vm.findClass own = _ from I.2.2.2.2.2.1) (mvT hZ w1) (mvT hZ w2) (mvT hZ wc) hy (hK vm0 hZ) (g := mkF m pc Ls st) rfl (by rw [hml]; exact hsz) (Steps.refl _) (a := a) (argsL := argsL) (rest := rest) hlen hst hW' (hb hby hd) (fun _ _ => ⟨has, eT, hc, hs⟩)
  dsimp only [Pt.U, Pt.locs, Pt.cells, Pt.slots] at Y' l1 l2 l3 q stp
  subst l1 l2 l3
  exact og (fun _ q => stp.trans q) (K U U.heap v L ⟨hx, hby, hml, rfl, hlk, vm0, _, Y', I.keep (hQ _ _ _ q).2 hsv (hQ _ _ _ q).1⟩ (hQ _ _ _ q).2 q)
theorem own_virtB (X : OSt Z EL a0 n0 h0 ws own bytes mx p l e R s m args below meth c sv T h k n) (pc' : Nat) {y z : MethodName} {C : String} {index W rc rs : Nat} {as' : Array Value} {ws' : List Addr} {Q : Option Value → Heap → List Loc → Prop} {a : Addr} {argsL rest : List Value} (hd : decode bytes pc = .ok (.invokevirtual index, 3)) (E : Exa Z h a C) (hnf : ∀ vm0, Z.Warmed39 (s.setVm vm0).vm → NotFace (s.setVm vm0) y)
    (hK : ∀ vm0, Z.Warmed39 (s.setVm vm0).vm → Back l R p e below (s.setVm vm0) args z 3 W (fun A a => a = as' ∧ A.U.heap = h ∧ A.cells + rc ≤ R.cells ∧ A.slots + rs ≤ R.slots) (fun A _ v B => ∃ L, Q v B.U.heap L ∧ B.locs = A.locs ++ L ∧ B.cells = A.cells + rc ∧ B.slots = A.slots + rs)) (hQ : ∀ v h' L, Q v h' L → Fr n0 L ∧ Keep h h' ws')
    (w1 : (Cond.methodLink own index y).before a0 Z = true) (w2 : (Cond.declares y).before a0 Z = true) (w3 : (Cond.selects C y z).before a0 Z = true) (w4 : (Cond.instanceMethod z).before a0 Z = true) (hy : y.cls ≠ "java/lang/invoke/MethodHandle" ∧ y.cls ≠ "java/lang/invoke/VarHandle")
    (hlen : ∀ sig, parseMethodDescriptor y.desc = some sig → argsL.length = sig.parameters.length) (hst : st = argsL.reverse ++ .ref a :: rest) (has : (.ref a :: argsL).toArray = as') (hsz : Ls.size = mx) (hW : (rest.map fun v => v.category).sum = W) (hc : k + rc ≤ R.cells) (hs : n + rs ≤ R.slots) (hsv : ∀ x ∈ ws', x ∈ sv) (hq : pc' = pc + 3)
    (K : ∀ (T' : State) (h' : Heap) (v : Option Value) (L : List Loc), OSt Z EL a0 n0 h0 ws own bytes mx p l e R s m args below meth c sv T' h' (k + rc) (n + rs) → Keep h h' ws' → Q v h' L → OGo p.tables e below P T' (mkF m pc' Ls (v.toList ++ rest))) : OGo p.tables e below P T (mkF m pc Ls st) := by
  subst hq
  obtain ⟨hx, hby, hml, eT, hlk, vm0, locs, Y, I⟩ := X
  have hZ : Z.Warmed39 (s.setVm vm0).vm := I.2.2.2.2.1
  have hW' : 2 * (mkF m pc Ls st).monitorRoom + (rest.map fun v => v.category).sum ≤ W := by show 2 * 0 + _ ≤ _; rw [hW]; omega
  obtain ⟨cq, kq, qa, qb, qc⟩ := isOf (s := s.setVm vm0) hZ eT E
  obtain ⟨v, vm₁, ⟨U, L', k', n'⟩, -, Y', ⟨L, q, l1, l2, l3⟩, stp⟩ := Y.virtualBack hx (y := y) (z := z) (show (s.setVm vm0).vm.findClass own = _ from I.2.2.2.2.2.1) (mvT hZ w1) (mvT hZ w2) (hnf vm0 hZ) (mvT hZ w3) (mvT hZ w4) hy (hK vm0 hZ) qa qc (g := mkF m pc Ls st) rfl (by rw [hml]; exact hsz) (Steps.refl _) (argsL := argsL) (rest := rest) hlen hst hW' (hb hby hd) (fun _ _ => ⟨has, eT, hc, hs⟩)
  dsimp only [Pt.U, Pt.locs, Pt.cells, Pt.slots] at Y' l1 l2 l3 q stp
  subst l1 l2 l3
  exact og (fun _ q => stp.trans q) (K U U.heap v L ⟨hx, hby, hml, rfl, hlk, vm0, _, Y', I.keep (hQ _ _ _ q).2 hsv (hQ _ _ _ q).1⟩ (hQ _ _ _ q).2 q)
theorem own_svb (X : OSt Z EL a0 n0 h0 ws own bytes mx p l e R s m args below meth c sv T h k n) {a : Addr} (ha : a ∈ sv) : n0 ≤ a ∧ a < h.size := by
  obtain ⟨-, -, -, -, -, _, _, -, -, -, -, -, -, -, -, -, -, -, q⟩ := X
  exact ⟨(q a ha).1, (q a ha).2.1⟩
theorem own_fitR {t : FieldType} {w : Value} (ht : t.isReference = true) (hw : w.isRef = true) : fits t w = true := by
  rcases ref_cases hw with rfl | ⟨a, rfl⟩ <;> cases t <;> first | rfl | cases ht
theorem own_sto {a y : Addr} {kb : ClassId} {ty : FieldType} {z : Int32} {vs : List Value} {dv : Value} {C : String} (A : Arv Z h a kb ty z vs dv) (O : Ovr Z kb C) (i : Ins Z h y C true) : Sto Z h a (.ref y) := by
  obtain ⟨cl, Ar, q, -⟩ := A
  exact Sto.ofV Ar q O i
theorem own_face (X : OSt Z EL a0 n0 h0 ws own bytes mx p l e R s m args below meth c sv T h k n) (pc' : Nat) {y z : MethodName} {C : String} {index count maxL W : Nat} {ret : Option FieldType} {rm : Room} {as' : Array Value} {ws' : List Addr} {Q : Option Value → Heap → Prop} {bc : ByteArray} {a : Addr} {argsL rest : List Value} (hd : decode bytes pc = .ok (.invokeinterface index count, 5)) (E : Exa Z h a C) (hM : OMet l Z EL n0 z [Jvm.Cond.code z bc maxL ret] rm as' h ws' Q) (w1 : (Cond.methodLink own index y).before a0 Z = true) (w2 : (Cond.declares y).before a0 Z = true) (w3 : (Cond.interfaceMethod y.cls y.cls y.name y.desc).before a0 Z = true) (w4 : (Cond.selects C y z).before a0 Z = true) (w5 : (Cond.instanceMethod z).before a0 Z = true) (w6 : (Cond.publicMethod z).before a0 Z = true) (w7 : (Cond.unhidden C y.name y.desc).before a0 Z = true) (w8 : (Cond.castable C y.cls).before a0 Z = true) (wz : (Cond.initialized z.cls).before a0 Z = true) (wc : (Cond.code z bc maxL ret).before a0 Z = true) (hy : y.cls ≠ "java/lang/invoke/MethodHandle" ∧ y.cls ≠ "java/lang/invoke/VarHandle")
    (hlen : ∀ sig, parseMethodDescriptor y.desc = some sig → argsL.length = sig.parameters.length) (hst : st = argsL.reverse ++ .ref a :: rest) (has : (.ref a :: argsL).toArray = as') (hsz : Ls.size = mx) (hW : (rest.map fun v => v.category).sum = W) (hf : rm.frames + 1 ≤ R.frames) (hl : W + (maxL + 11) + rm.locals ≤ R.locals) (hc : k + rm.cells ≤ R.cells) (hs : n + rm.slots ≤ R.slots) (hsv : ∀ x ∈ ws', x ∈ sv) (hq : pc' = pc + 5)
    (K : ∀ (T' : State) (h' : Heap) (v : Option Value), OSt Z EL a0 n0 h0 ws own bytes mx p l e R s m args below meth c sv T' h' (k + rm.cells) (n + rm.slots) → Keep h h' ws' → Q v h' → OGo p.tables e below P T' (mkF m pc' Ls (v.toList ++ rest))) : OGo p.tables e below P T (mkF m pc Ls st) := by
  subst hq
  obtain ⟨hx, hby, hml, eT, hlk, vm0, locs, Y, I⟩ := X
  have I0 := I
  obtain ⟨b1, b2, b3, b4, b5, b6, b7, b8, b9, b10, b11⟩ := I0
  have hS : ∀ x ∈ ws', x < h.size ∧ Safe Z EL vm0 h x := fun x hx => ⟨(b11 x (hsv x hx)).2.1, (b11 x (hsv x hx)).2.2.2⟩
  have hZ : Z.Warmed39 (s.setVm vm0).vm := b5
  have hW' : 2 * (mkF m pc Ls st).monitorRoom + (rest.map fun v => v.category).sum ≤ W := by show 2 * 0 + _ ≤ _; rw [hW]; omega
  obtain ⟨cq, kq, qa, qb, qc⟩ := isOf (s := s.setVm vm0) hZ eT E
  by_cases hnil : EL = []
  · obtain ⟨v, vm₁, ⟨U, L', k', n'⟩, -, Y', ⟨L, ⟨q1, q2, q3⟩, l1, l2, l3⟩, stp⟩ := Y.interfaceBack hx (xi := y) (y := z) (show (s.setVm vm0).vm.findClass own = _ from b6) (mvT hZ w1 (by first | rfl | decide | simp [Cond.onTables, Cond.keepsFace, Cond.keeps, Cond.steady, Cond.faceAtom, hy.1, hy.2])) (mvT hZ w2 (by first | rfl | decide | simp [Cond.onTables, Cond.keepsFace, Cond.keeps, Cond.steady, Cond.faceAtom, hy.1, hy.2])) (mvT hZ w3 (by first | rfl | decide | simp [Cond.onTables, Cond.keepsFace, Cond.keeps, Cond.steady, Cond.faceAtom, hy.1, hy.2])) (mvT hZ w4 (by first | rfl | decide | simp [Cond.onTables, Cond.keepsFace, Cond.keeps, Cond.steady, Cond.faceAtom, hy.1, hy.2])) (mvT hZ w5 (by first | rfl | decide | simp [Cond.onTables, Cond.keepsFace, Cond.keeps, Cond.steady, Cond.faceAtom, hy.1, hy.2])) (mvT hZ w6 (by first | rfl | decide | simp [Cond.onTables, Cond.keepsFace, Cond.keeps, Cond.steady, Cond.faceAtom, hy.1, hy.2])) (mvT hZ w7 (by first | rfl | decide | simp [Cond.onTables, Cond.keepsFace, Cond.keeps, Cond.steady, Cond.faceAtom, hy.1, hy.2])) (mvT hZ w8 (by first | rfl | decide | simp [Cond.onTables, Cond.keepsFace, Cond.keeps, Cond.steady, Cond.faceAtom, hy.1, hy.2])) hy (own_payN hnil hM b5 wc wz hf hl b7 b8.1 hS) qa qb qc (g := mkF m pc Ls st) rfl (by rw [hml]; exact hsz) (Steps.refl _) (argsL := argsL) (rest := rest) hlen hst hW' (hb hby hd) (fun _ _ => ⟨has, eT, hc, hs⟩)
    dsimp only [Pt.U, Pt.locs, Pt.cells, Pt.slots] at Y' l1 l2 l3 q1 q2 q3 stp
    subst l1 l2 l3
    exact og (fun _ q => stp.trans q) (K U U.heap v ⟨hx, hby, hml, rfl, hlk, vm0, _, Y', I.keep q2 hsv q1⟩ q2 q3)
  · obtain ⟨v, vm₁, ⟨U, L', k', n'⟩, -, Y', S', g', ⟨L, ⟨q1, q2, q3⟩, l1, l2, l3, C⟩, stp⟩ := Y.interfaceBackS hx (xi := y) (y := z) (show (s.setVm vm0).vm.findClass own = _ from b6) (mvT hZ w1 (by first | rfl | decide | simp [Cond.onTables, Cond.keepsFace, Cond.keeps, Cond.steady, Cond.faceAtom, hy.1, hy.2])) (mvT hZ w2 (by first | rfl | decide | simp [Cond.onTables, Cond.keepsFace, Cond.keeps, Cond.steady, Cond.faceAtom, hy.1, hy.2])) (mvT hZ w3 (by first | rfl | decide | simp [Cond.onTables, Cond.keepsFace, Cond.keeps, Cond.steady, Cond.faceAtom, hy.1, hy.2])) (mvT hZ w4 (by first | rfl | decide | simp [Cond.onTables, Cond.keepsFace, Cond.keeps, Cond.steady, Cond.faceAtom, hy.1, hy.2])) (mvT hZ w5 (by first | rfl | decide | simp [Cond.onTables, Cond.keepsFace, Cond.keeps, Cond.steady, Cond.faceAtom, hy.1, hy.2])) (mvT hZ w6 (by first | rfl | decide | simp [Cond.onTables, Cond.keepsFace, Cond.keeps, Cond.steady, Cond.faceAtom, hy.1, hy.2])) (mvT hZ w7 (by first | rfl | decide | simp [Cond.onTables, Cond.keepsFace, Cond.keeps, Cond.steady, Cond.faceAtom, hy.1, hy.2])) (mvT hZ w8 (by first | rfl | decide | simp [Cond.onTables, Cond.keepsFace, Cond.keeps, Cond.steady, Cond.faceAtom, hy.1, hy.2])) hy (own_payW hM b5 wc wz hf hl b7 b8.1 hS) qa qb qc (g := mkF m pc Ls st) rfl (by rw [hml]; exact hsz) (Steps.refl _) (argsL := argsL) (rest := rest) hlen hst hW' (hb hby hd) (fun _ _ => ⟨has, eT, hc, hs⟩)
    dsimp only [Pt.U, Pt.locs, Pt.cells, Pt.slots] at Y' l1 l2 l3 q1 q2 q3 stp S' g' C
    subst l1 l2 l3
    exact og (fun _ q => stp.trans q) (K U U.heap v ⟨hx, hby, hml, rfl, hlk, U.vm, _, Y', I.call q2 hsv q1 C S' (fun q => absurd q hnil)⟩ q2 q3)
theorem own_ldcO (X : OSt Z EL a0 n0 h0 ws own bytes mx p l e R s m args below meth c sv T h k n) (pc' : Nat) {index cap : Nat} {text : String} (hd : decode bytes pc = .ok (.ldc index, 2)) (hne : EL ≠ []) (w : (Cond.stringLink own index text).before a0 Z = true) (wS : ∀ a ∈ Bundle.stringAtoms, a.before a0 Z = true) (hcap : 4 * text.toList.length ≤ cap) (hbig : cap ≤ 536870912) (hc : k + 2 ≤ R.cells) (hl : n + (cap + 4) ≤ R.slots) (hq : pc' = pc + 2)
    (K : ∀ (T' : State) (h' : Heap) (a : Addr), OSt Z EL a0 n0 h0 ws own bytes mx p l e R s m args below meth c sv T' h' (k + 2) (n + (cap + 4)) → Keep h h' [] → OGo p.tables e below P T' (mkF m pc' Ls (.ref a :: st))) : OGo p.tables e below P T (mkF m pc Ls st) := by
  subst hq
  obtain ⟨hx, hby, hml, eT, hlk, vm0, locs, Y, I⟩ := X
  have I0 := I
  obtain ⟨b1, b2, b3, ⟨k0, b4, b4'⟩, b5, b6, b7, b8, b9, b10, b11⟩ := I0
  obtain ⟨a, T', h', k1, Y', e', E, S', hk', hZ', hown', C, -, stp⟩ := ldcOH Y hx b5 b6 w wS eT b4 b4' b7 b8.1 (g := mkF m pc Ls st) rfl (hb hby hd) hcap hbig hc hl
  have hZ' : Z.Warmed39 T'.vm := hZ'
  refine og stp (K T' h' a ⟨hx, hby, hml, e', hlk, T'.vm, locs, Y', b1, b2.ext E, b3.ext E, ⟨k1, S', hk'⟩, hZ', hown', b7, b8.trans C, fun q => absurd q hne, b10, fun x hx => ?_⟩ ((Keep.refl _ _).ext E))
  exact ⟨(b11 x hx).1, Nat.lt_of_lt_of_le (b11 x hx).2.1 E.1, (b11 x hx).2.2.1, C.safe (b11 x hx).2.1 (b11 x hx).2.2.2⟩
theorem own_ldcR (X : OSt Z EL a0 n0 h0 ws own bytes mx p l e R s m args below meth c sv T h k n) (pc' : Nat) {index cap : Nat} {text : String} {vs : List Value} {z : Int32} (hd : decode bytes pc = .ok (.ldc index, 2)) (hmem : (own, index) ∈ EL) (w : (Cond.stringLink own index text).before a0 Z = true) (wS : ∀ a ∈ Bundle.stringAtoms, a.before a0 Z = true) (ht : (∀ c ∈ text.toList, c.toNat < 256) ∧ text.toList.map (fun c => Value.int (Jvm.Lit.byteI c.toNat.toUInt16)) = vs) (hz : ¬ z < 0) (hlz : z.toNatClampNeg = vs.length) (hcap : 4 * text.toList.length ≤ cap) (hbig : cap ≤ 536870912) (hc : k + 2 ≤ R.cells) (hl : n + (cap + 4) ≤ R.slots) (hq : pc' = pc + 2)
    (K : ∀ (T' : State) (h' : Heap) (a b : Addr) (kb : ClassId), OSt Z EL a0 n0 h0 ws own bytes mx p l e R s m args below meth c sv T' h' (k + 2) (n + (cap + 4)) → Keep h h' [] → Exa Z h' a "java/lang/String" → Fld Z h' a "java/lang/String" "coder" "B" (.int 0) → Fld Z h' a "java/lang/String" "value" "[B" (.ref b) → Arv Z h' b kb .byte z vs (.int 0) → (∀ x ∈ sv, x ≠ a ∧ x ≠ b) → OGo p.tables e below P T' (mkF m pc' Ls (.ref a :: st))) : OGo p.tables e below P T (mkF m pc Ls st) := by
  subst hq
  obtain ⟨hx, hby, hml, eT, hlk, vm0, locs, Y, I⟩ := X
  have I0 := I
  obtain ⟨b1, b2, b3, ⟨k0, b4, b4'⟩, b5, b6, b7, b8, b9, b10, b11⟩ := I0
  obtain ⟨a, T', h', k1, b, kb, Y', e', E, S', hk', hZ', hown', r1, r2, r3, r4, r5, r6, C, -, far, stp⟩ := ldcCH Y hx b5 b6 w wS eT b4 b4' b7 hmem b8.1 ht hz hlz (g := mkF m pc Ls st) rfl (hb hby hd) hcap hbig hc hl
  have hZ' : Z.Warmed39 T'.vm := hZ'
  have sf : ∀ x ∈ sv, Safe Z EL T'.vm h' x := fun x hx => C.safe (b11 x hx).2.1 (b11 x hx).2.2.2
  refine og stp (K T' h' a b kb ⟨hx, hby, hml, e', hlk, T'.vm, locs, Y', b1, b2.ext E, b3.ext E, ⟨k1, S', hk'⟩, hZ', hown', b7, b8.trans C, fun q => ?_, b10, fun x hx => ?_⟩ ((Keep.refl _ _).ext E) r1 r2 r3 r4 fun x hx => far x (sf x hx))
  · rw [q] at hmem; cases hmem
  · exact ⟨(b11 x hx).1, Nat.lt_of_lt_of_le (b11 x hx).2.1 E.1, (b11 x hx).2.2.1, sf x hx⟩
theorem own_n0 (X : OSt Z EL a0 n0 h0 ws own bytes mx p l e R s m args below meth c sv T h k n) : n0 ≤ h.size := X.old.1 ▸ X.old.2.1
def OFar (Z : State) (h : Heap) (B : Nat) (y : Addr) : Prop := B ≤ y ∨ ∃ (C : String) (kk : Nat) (a0 : Array Value), Exa Z h y C ∧ C ≠ "java/lang/String" ∧ (Jvm.Cond.instantiable C kk).before a0 Z = true
def OStr (Z : State) (h : Heap) (x : Addr) (cs : List Int32) (B : Nat) : Prop := ∃ (t : Addr) (kb : ClassId) (cd N : Int32) (vs : List Value), Exa Z h x "java/lang/String" ∧ Fld Z h x "java/lang/String" "coder" "B" (.int cd) ∧ Fld Z h x "java/lang/String" "value" "[B" (.ref t) ∧ Arv Z h t kb .byte N vs (.int 0) ∧ StrChars.Road.CodA cs cd N vs ∧ (∀ c ∈ cs, ¬ c < 0 ∧ ¬ (65535 : Int32) < c) ∧ cs.length ≤ 4000 ∧ x < B ∧ t < B
theorem OStr.exa {Z : State} {h : Heap} {x : Addr} {cs : List Int32} {B : Nat} (F : OStr Z h x cs B) : Exa Z h x "java/lang/String" := by obtain ⟨t, kb, cd, N, vs, r, -⟩ := F; exact r
theorem OStr.lt {Z : State} {h : Heap} {x : Addr} {cs : List Int32} {B : Nat} (F : OStr Z h x cs B) : x < h.size := F.exa.lt
theorem OStr.ltB {Z : State} {h : Heap} {x : Addr} {cs : List Int32} {B : Nat} (F : OStr Z h x cs B) : x < B := by obtain ⟨t, kb, cd, N, vs, -, -, -, -, -, -, -, r, -⟩ := F; exact r
theorem OStr.top {Z : State} {h : Heap} {x : Addr} {cs : List Int32} {B : Nat} (F : OStr Z h x cs B) : OStr Z h x cs h.size := by
  obtain ⟨t, kb, cd, N, vs, r1, r2, r3, r4, r5, r6, r7, -, -⟩ := F
  exact ⟨t, kb, cd, N, vs, r1, r2, r3, r4, r5, r6, r7, r1.lt, r4.lt⟩
theorem OStr.keep {Z : State} {h h' : Heap} {x : Addr} {cs : List Int32} {B : Nat} {ws : List Addr} (F : OStr Z h x cs B) (K : Keep h h' ws) (q : ∀ y ∈ ws, OFar Z h B y) : OStr Z h' x cs B := by
  obtain ⟨t, kb, cd, N, vs, r1, r2, r3, r4, r5, r6, r7, r8, r9⟩ := F
  have nx : x ∉ ws := fun hx => by
    rcases q x hx with u | ⟨C, kk, a0, E, hC, -⟩
    · exact absurd r8 (Nat.not_lt.mpr u)
    · exact ne_exa r1 E (Ne.symm hC) rfl
  have nt : t ∉ ws := fun hx => by
    rcases q t hx with u | ⟨C, kk, a0, E, hC, wi⟩
    · exact absurd r9 (Nat.not_lt.mpr u)
    · obtain ⟨c, A, -⟩ := r4
      exact ne_arr E wi A rfl
  exact ⟨t, kb, cd, N, vs, r1.keep K, r2.keep K nx, r3.keep K nx, r4.keep K nt, r5, r6, r7, r8, r9⟩
theorem own_mkStr {Z : State} {h : Heap} {x t : Addr} {kb : ClassId} {cs bs : List Int32} {N : Int32} {n : Nat} (E : Exa Z h x "java/lang/String") (C : Fld Z h x "java/lang/String" "coder" "B" (.int 0)) (V : Fld Z h x "java/lang/String" "value" "[B" (.ref t)) (A : Arv Z h t kb .byte N (bs.map Value.int) (.int 0)) (hb : bs = cs.map (fun c => c.toInt8.toInt32)) (hp : ∀ c ∈ cs, ¬ c < 0 ∧ ¬ (255 : Int32) < c) (hn : cs.length = n) (hN : N = Int32.ofNat n) (hl : n ≤ 4000) : OStr Z h x cs h.size := by
  subst hn hN hb
  exact ⟨t, kb, 0, _, _, E, C, V, A, StrChars.Road.codOf rfl (fun c hc => (hp c hc).2), fun c hc => ⟨(hp c hc).1, own_up8 (hp c hc).2⟩, hl, E.lt, A.lt⟩
theorem own_strLen  (X : OSt Z EL a0 n0 h0 ws own bytes mx p l e R s m args below meth c sv T h k n) (pc' : Nat) {index W : Nat} {x : Addr} {cs : List Int32} {B1 : Nat} {z0 : Int32} {rest : List Value} (hd : decode bytes pc = .ok (.invokevirtual index, 3)) (S1 : OStr Z h x cs B1) (hwq : ∀ d ∈ StrChars.Road.wordsLen, d.before a0 Z = true) (wi : (Jvm.Cond.instantiable "java/lang/String" 4).before a0 Z = true) (hcs : Sta Z Z.heap "java/lang/String" "COMPACT_STRINGS" "Z" (.int z0)) (hz : ¬ z0 = 0)
    (w1 : (Jvm.Cond.methodLink own index (⟨"java/lang/String", "length", "()I"⟩ : MethodName)).before a0 Z = true) (w2 : (Jvm.Cond.declares (⟨"java/lang/String", "length", "()I"⟩ : MethodName)).before a0 Z = true) (w3 : (Jvm.Cond.selects "java/lang/String" (⟨"java/lang/String", "length", "()I"⟩ : MethodName) (⟨"java/lang/String", "length", "()I"⟩ : MethodName)).before a0 Z = true) (w4 : (Jvm.Cond.instanceMethod (⟨"java/lang/String", "length", "()I"⟩ : MethodName)).before a0 Z = true)
    (hsz : Ls.size = mx) (hW : (rest.map fun v => v.category).sum = W) (hfr : 2 ≤ R.frames) (hlo : W + 25 ≤ R.locals) (hc : k ≤ R.cells) (hs : n ≤ R.slots) (hq : pc' = pc + 3)
    (K : ∀ (T' : State), OSt Z EL a0 n0 h0 ws own bytes mx p l e R s m args below meth c sv T' h k n → OGo p.tables e below P T' (mkF m pc' Ls (.int (Int32.ofNat cs.length) :: rest))) : OGo p.tables e below P T (mkF m pc Ls (.ref x :: rest)) := by
  obtain ⟨t1, k1, cd1, N1, vs1, E1, C1, V1, A1, c1, b1, l1, -, -⟩ := S1
  have O1 := X.old
  have hpd : parseMethodDescriptor "()I" = some ⟨[], some .int⟩ := by decide +kernel
  refine own_virtB X pc' (a := x) (argsL := []) (rest := rest) (Q := fun v h' L => (v = some (.int (Int32.ofNat cs.length)) ∧ L = [] ∧ h' = h)) hd E1 (fun _ hZ => notFace_of_selects (args := #[]) (mvT hZ w3)) (fun vm0 hZ => StrChars.Road.lenW (W := W) hZ hwq (kI := 4) wi E1 V1 C1 A1 c1 b1 (hcs.ext O1.2) hz l1 hfr hlo) (ws' := []) (fun v h' L q => ⟨by obtain ⟨-, rfl, -⟩ := q; exact Fr.nil _, by obtain ⟨-, -, rfl⟩ := q; exact Keep.refl _ _⟩) w1 w2 w3 w4 (by decide) (lenOf hpd rfl) rfl rfl hsz hW hc hs all0 hq ?_
  rintro T' h' v L X' K' ⟨rfl, -, rfl⟩
  exact K T' X'
theorem own_boxes {args : Array Value} {C nm d AK B dd : String} {z : Int32} {F : Term} {val : Int32 → Value} (w1 : (Jvm.Cond.exactly (Term.static C nm d) AK).before args Z = true) (w2 : (Jvm.Cond.arrayOf (Term.static C nm d) (.object B)).before args Z = true) (w3 : (Jvm.Cond.eq (.length (Term.static C nm d)) (.int z)).before args Z = true) (hz : ¬ z < 0)
    (w4 : (Jvm.Cond.all (Term.static C nm d) (.and (.exactly (.elem (Term.static C nm d) (.index 0)) B) (.eq (.field (.elem (Term.static C nm d) (.index 0)) B "value" dd) F))).before args Z = true) (hi : (Jvm.Cond.initializedFor C nm d).before args Z = true)
    (hv : ∀ (X : Term) (j : Int32), ¬ j < 0 → (Jvm.Cond.eq X F).value args Z none Z [j.toNatClampNeg] = some true → X.eval args Z none [j.toNatClampNeg] Z = some (val j)) : ∃ (a : Addr) (c : Cell), Sta Z Z.heap C nm d (.ref a) ∧ Bxs Z a c B dd z val := by
  obtain ⟨a, f⟩ := exa_v (Cond.before_iff.mp w1)
  obtain ⟨c, A⟩ := Arr.start f (Cond.before_iff.mp w2)
  have hl : (Term.length (Term.static C nm d)).eval args Z none [] Z = some (.int z) := Cond.eq_int w3 rfl
  have hA := A.fin (Vm.Alike.refl _)
  have hl2 : (if c.slots.size < 2 ^ 31 then some (Value.int c.slots.size.toInt32) else none) = some (.int z) := by
    rw [← hl]; simp [Term.eval] at f ⊢; simp [f, hA]
  have q : c.slots.size < 2 ^ 31 := by
    by_cases q : c.slots.size < 2 ^ 31
    · exact q
    · rw [if_neg q] at hl2; cases hl2
  rw [if_pos q] at hl2
  have e : c.slots.size.toInt32 = z := by simpa using hl2
  exact ⟨a, c, Sta.start f (Or.inl hi), Bxs.start (fun _ => f) A q e hz (Cond.before_iff.mp w4) hv⟩
theorem own_boxL {args : Array Value} {X : Term} {j : Int32} (hj : ¬ j < 0) (h : (Jvm.Cond.eq X (.op1 .i2l (.sub (.index 0) (.int 128)))).value args Z none Z [j.toNatClampNeg] = some true) : X.eval args Z none [j.toNatClampNeg] Z = some (.long (j - 128).toInt64) := by
  refine eqv_l (i2l_at ?_) h
  have q := idx_at (args := args) (s := Z) (first := Z) (o := none) hj
  simp [Term.eval] at q ⊢
  rw [q]
end OwnKit
def own_EL : List (String × Nat) := consts_1
def OWorld (Z : State) (a0 : Array Value) : Prop := EW Z a0 own_EL ∧ (Sta Z Z.heap "java/lang/String" "COMPACT_STRINGS" "Z" (.int (own_sti Z "java/lang/String" "COMPACT_STRINGS" "Z")) ∧ ¬ (own_sti Z "java/lang/String" "COMPACT_STRINGS" "Z") = 0) ∧ (∃ (ca : Addr) (cc : Cell), Sta Z Z.heap "java/lang/Long$LongCache" "cache" "[Ljava/lang/Long;" (.ref ca) ∧ Bxs Z ca cc "java/lang/Long" "J" 256 (fun j => .long (j - 128).toInt64))
def own_txt (x a b c : Int32) : List Int32 := if x = 0 then [] else if x = 1 then [a &&& 255] else if x = 2 then [a &&& 255, b &&& 255] else [a &&& 255, b &&& 255, c &&& 255]
theorem own_txt_len {x a b c : Int32} (h : x = 0 ∨ x = 1 ∨ x = 2 ∨ x = 3) : Int32.ofNat (own_txt x a b c).length = x := by
  rcases h with rfl | rfl | rfl | rfl <;> rfl
theorem ef_rm_canE (x : Int32) (m : MethodId) : entryFrame m #[(.int x)] 1 = mkF m 0 #[.val (.int x)] [] := by first | (simp [entryFrame, mkF, argsToLocals, Value.category, maxLocals]; done) | rfl
theorem pn_java_lang_StringLatin1_canEncode__C_Z : plainFor (⟨"java/lang/StringLatin1", "canEncode", "(C)Z"⟩ : MethodName) = true := by first | exact plainFor_of_name (by first | (simp [plainName, overriddenIn]; done) | decide +kernel) | decide +kernel
theorem d3_0 : decode jdk_43_method_3_code 0 = .ok (.iload_n 0, 1) := by decide +kernel
theorem d3_1 : decode jdk_43_method_3_code 1 = .ok (.sipush 255, 3) := by decide +kernel
theorem d3_4 : decode jdk_43_method_3_code 4 = .ok (.if_icmp .gt 7, 3) := by decide +kernel
theorem d3_7 : decode jdk_43_method_3_code 7 = .ok (.iconst 1, 1) := by decide +kernel
theorem d3_8 : decode jdk_43_method_3_code 8 = .ok (.goto 4, 3) := by decide +kernel
theorem d3_12 : decode jdk_43_method_3_code 12 = .ok (.ireturn, 1) := by decide +kernel
theorem ef_rm_toB (x : Int32) (m : MethodId) : entryFrame m #[(.int x)] 1 = mkF m 0 #[.val (.int x)] [] := by first | (simp [entryFrame, mkF, argsToLocals, Value.category, maxLocals]; done) | rfl
theorem pn_java_lang_StringLatin1_toBytes__C__B : plainFor (⟨"java/lang/StringLatin1", "toBytes", "(C)[B"⟩ : MethodName) = true := by first | exact plainFor_of_name (by first | (simp [plainName, overriddenIn]; done) | decide +kernel) | decide +kernel
theorem d4_0 : decode jdk_43_method_46_code 0 = .ok (.iconst 1, 1) := by decide +kernel
theorem d4_1 : decode jdk_43_method_46_code 1 = .ok (.newarray .byte, 2) := by decide +kernel
theorem d4_3 : decode jdk_43_method_46_code 3 = .ok (.dup, 1) := by decide +kernel
theorem d4_4 : decode jdk_43_method_46_code 4 = .ok (.iconst 0, 1) := by decide +kernel
theorem d4_5 : decode jdk_43_method_46_code 5 = .ok (.iload_n 0, 1) := by decide +kernel
theorem d4_6 : decode jdk_43_method_46_code 6 = .ok (.i2b, 1) := by decide +kernel
theorem d4_7 : decode jdk_43_method_46_code 7 = .ok (.bastore, 1) := by decide +kernel
theorem d4_8 : decode jdk_43_method_46_code 8 = .ok (.areturn, 1) := by decide +kernel
theorem ef_rm_newB (a : Addr) (b : Addr) (y : Value) (z : Int32) (m : MethodId) : entryFrame m #[(.ref a), (.ref b), (.int (0 : Int32))] 3 = mkF m 0 #[.val (.ref a), .val (.ref b), .val (.int (0 : Int32))] [] := by first | (simp [entryFrame, mkF, argsToLocals, Value.category, maxLocals]; done) | rfl
theorem pn_java_lang_String__init____BB_V : plainFor (⟨"java/lang/String", "<init>", "([BB)V"⟩ : MethodName) = true := by first | exact plainFor_of_name (by first | (simp [plainName, overriddenIn]; done) | decide +kernel) | decide +kernel
theorem d5_0 : decode jdk_42_method_151_code 0 = .ok (.aload_n 0, 1) := by decide +kernel
theorem d5_1 : decode jdk_42_method_151_code 1 = .ok (.invokespecial 1, 3) := by decide +kernel
theorem d5_4 : decode jdk_42_method_151_code 4 = .ok (.aload_n 0, 1) := by decide +kernel
theorem d5_5 : decode jdk_42_method_151_code 5 = .ok (.aload_n 1, 1) := by decide +kernel
theorem d5_6 : decode jdk_42_method_151_code 6 = .ok (.putfield 9, 3) := by decide +kernel
theorem d5_9 : decode jdk_42_method_151_code 9 = .ok (.aload_n 0, 1) := by decide +kernel
theorem d5_10 : decode jdk_42_method_151_code 10 = .ok (.iload_n 2, 1) := by decide +kernel
theorem d5_11 : decode jdk_42_method_151_code 11 = .ok (.putfield 15, 3) := by decide +kernel
theorem d5_14 : decode jdk_42_method_151_code 14 = .ok (.return_, 1) := by decide +kernel
theorem ef_rm_valC (x : Int32) (m : MethodId) : entryFrame m #[(.int x)] 1 = mkF m 0 #[.val (.int x)] [] := by first | (simp [entryFrame, mkF, argsToLocals, Value.category, maxLocals]; done) | rfl
theorem pn_java_lang_String_valueOf__C_Ljava_lang_String_ : plainFor (⟨"java/lang/String", "valueOf", "(C)Ljava/lang/String;"⟩ : MethodName) = true := by first | exact plainFor_of_name (by first | (simp [plainName, overriddenIn]; done) | decide +kernel) | decide +kernel
theorem d2_0 : decode jdk_42_method_139_code 0 = .ok (.getstatic 38, 3) := by decide +kernel
theorem d2_3 : decode jdk_42_method_139_code 3 = .ok (.ifCond .eq 23, 3) := by decide +kernel
theorem d2_6 : decode jdk_42_method_139_code 6 = .ok (.iload_n 0, 1) := by decide +kernel
theorem d2_7 : decode jdk_42_method_139_code 7 = .ok (.invokestatic 1015, 3) := by decide +kernel
theorem pd__28C_29Z : parseMethodDescriptor "(C)Z" = some ⟨[.char], some .boolean⟩ := by decide +kernel
theorem d2_10 : decode jdk_42_method_139_code 10 = .ok (.ifCond .eq 16, 3) := by decide +kernel
theorem d2_13 : decode jdk_42_method_139_code 13 = .ok (.new 10, 3) := by decide +kernel
theorem d2_16 : decode jdk_42_method_139_code 16 = .ok (.dup, 1) := by decide +kernel
theorem d2_17 : decode jdk_42_method_139_code 17 = .ok (.iload_n 0, 1) := by decide +kernel
theorem d2_18 : decode jdk_42_method_139_code 18 = .ok (.invokestatic 1018, 3) := by decide +kernel
theorem pd__28C_29_5bB : parseMethodDescriptor "(C)[B" = some ⟨[.char], some (.array .byte)⟩ := by decide +kernel
theorem d2_21 : decode jdk_42_method_139_code 21 = .ok (.iconst 0, 1) := by decide +kernel
theorem d2_22 : decode jdk_42_method_139_code 22 = .ok (.invokespecial 209, 3) := by decide +kernel
theorem pd__28_5bBB_29V : parseMethodDescriptor "([BB)V" = some ⟨[(.array .byte), .byte], none⟩ := by decide +kernel
theorem d2_25 : decode jdk_42_method_139_code 25 = .ok (.areturn, 1) := by decide +kernel
theorem ef_rm_num (a : Addr) (m : MethodId) : entryFrame m #[(.ref a)] 1 = mkF m 0 #[.val (.ref a)] [] := by first | (simp [entryFrame, mkF, argsToLocals, Value.category, maxLocals]; done) | rfl
theorem pn_java_lang_Number__init____V : plainFor (⟨"java/lang/Number", "<init>", "()V"⟩ : MethodName) = true := by first | exact plainFor_of_name (by first | (simp [plainName, overriddenIn]; done) | decide +kernel) | decide +kernel
theorem d25_0 : decode jdk_18_method_1_code 0 = .ok (.aload_n 0, 1) := by decide +kernel
theorem d25_1 : decode jdk_18_method_1_code 1 = .ok (.invokespecial 1, 3) := by decide +kernel
theorem d25_4 : decode jdk_18_method_1_code 4 = .ok (.return_, 1) := by decide +kernel
theorem ef_rm_newL (a : Addr) (x : Int64) (y : Int64) (m : MethodId) : entryFrame m #[(.ref a), (.long x)] 3 = mkF m 0 #[.val (.ref a), .val (.long x), .second] [] := by first | (simp [entryFrame, mkF, argsToLocals, Value.category, maxLocals]; done) | rfl
theorem pn_java_lang_Long__init___J_V : plainFor (⟨"java/lang/Long", "<init>", "(J)V"⟩ : MethodName) = true := by first | exact plainFor_of_name (by first | (simp [plainName, overriddenIn]; done) | decide +kernel) | decide +kernel
theorem d24_0 : decode jdk_35_method_26_code 0 = .ok (.aload_n 0, 1) := by decide +kernel
theorem d24_1 : decode jdk_35_method_26_code 1 = .ok (.invokespecial 270, 3) := by decide +kernel
theorem pd__28_29V : parseMethodDescriptor "()V" = some ⟨[], none⟩ := by decide +kernel
theorem d24_4 : decode jdk_35_method_26_code 4 = .ok (.aload_n 0, 1) := by decide +kernel
theorem d24_5 : decode jdk_35_method_26_code 5 = .ok (.lload_n 1, 1) := by decide +kernel
theorem d24_6 : decode jdk_35_method_26_code 6 = .ok (.putfield 273, 3) := by decide +kernel
theorem d24_9 : decode jdk_35_method_26_code 9 = .ok (.return_, 1) := by decide +kernel
theorem ef_rm_valL (x : Int64) (m : MethodId) : entryFrame m #[(.long x)] 3 = mkF m 0 #[.val (.long x), .second, .unset] [] := by first | (simp [entryFrame, mkF, argsToLocals, Value.category, maxLocals]; done) | rfl
theorem pn_java_lang_Long_valueOf__J_Ljava_lang_Long_ : plainFor (⟨"java/lang/Long", "valueOf", "(J)Ljava/lang/Long;"⟩ : MethodName) = true := by first | exact plainFor_of_name (by first | (simp [plainName, overriddenIn]; done) | decide +kernel) | decide +kernel
theorem d7_0 : decode jdk_35_method_24_code 0 = .ok (.sipush 128, 3) := by decide +kernel
theorem d7_3 : decode jdk_35_method_24_code 3 = .ok (.istore_n 2, 1) := by decide +kernel
theorem d7_4 : decode jdk_35_method_24_code 4 = .ok (.lload_n 0, 1) := by decide +kernel
theorem d7_5 : decode jdk_35_method_24_code 5 = .ok (.ldc2_w 230, 3) := by decide +kernel
theorem d7_8 : decode jdk_35_method_24_code 8 = .ok (.lcmp, 1) := by decide +kernel
theorem d7_9 : decode jdk_35_method_24_code 9 = .ok (.ifCond .lt 22, 3) := by decide +kernel
theorem d7_31 : decode jdk_35_method_24_code 31 = .ok (.new 1, 3) := by decide +kernel
theorem d7_34 : decode jdk_35_method_24_code 34 = .ok (.dup, 1) := by decide +kernel
theorem d7_35 : decode jdk_35_method_24_code 35 = .ok (.lload_n 0, 1) := by decide +kernel
theorem d7_36 : decode jdk_35_method_24_code 36 = .ok (.invokespecial 240, 3) := by decide +kernel
theorem pd__28J_29V : parseMethodDescriptor "(J)V" = some ⟨[.long], none⟩ := by decide +kernel
theorem d7_39 : decode jdk_35_method_24_code 39 = .ok (.areturn, 1) := by decide +kernel
theorem d7_12 : decode jdk_35_method_24_code 12 = .ok (.lload_n 0, 1) := by decide +kernel
theorem d7_13 : decode jdk_35_method_24_code 13 = .ok (.ldc2_w 232, 3) := by decide +kernel
theorem d7_16 : decode jdk_35_method_24_code 16 = .ok (.lcmp, 1) := by decide +kernel
theorem d7_17 : decode jdk_35_method_24_code 17 = .ok (.ifCond .gt 14, 3) := by decide +kernel
theorem d7_20 : decode jdk_35_method_24_code 20 = .ok (.getstatic 234, 3) := by decide +kernel
theorem d7_23 : decode jdk_35_method_24_code 23 = .ok (.lload_n 0, 1) := by decide +kernel
theorem d7_24 : decode jdk_35_method_24_code 24 = .ok (.l2i, 1) := by decide +kernel
theorem d7_25 : decode jdk_35_method_24_code 25 = .ok (.sipush 128, 3) := by decide +kernel
theorem d7_28 : decode jdk_35_method_24_code 28 = .ok (.iadd, 1) := by decide +kernel
theorem d7_29 : decode jdk_35_method_24_code 29 = .ok (.aaload, 1) := by decide +kernel
theorem d7_30 : decode jdk_35_method_24_code 30 = .ok (.areturn, 1) := by decide +kernel
theorem ef_rm_lval (a : Addr) (x : Int64) (m : MethodId) : entryFrame m #[(.ref a)] 1 = mkF m 0 #[.val (.ref a)] [] := by first | (simp [entryFrame, mkF, argsToLocals, Value.category, maxLocals]; done) | rfl
theorem pn_java_lang_Long_longValue___J : plainFor (⟨"java/lang/Long", "longValue", "()J"⟩ : MethodName) = true := by first | exact plainFor_of_name (by first | (simp [plainName, overriddenIn]; done) | decide +kernel) | decide +kernel
theorem d14_0 : decode jdk_35_method_31_code 0 = .ok (.aload_n 0, 1) := by decide +kernel
theorem d14_1 : decode jdk_35_method_31_code 1 = .ok (.getfield 273, 3) := by decide +kernel
theorem d14_4 : decode jdk_35_method_31_code 4 = .ok (.lreturn, 1) := by decide +kernel
theorem ef_rm18 (a : Addr) (m : MethodId) : entryFrame m #[(.ref a), (.ref a)] 3 = mkF m 0 #[.val (.ref a), .val (.ref a), .unset] [] := by first | (simp [entryFrame, mkF, argsToLocals, Value.category, maxLocals]; done) | rfl
theorem pn_java_lang_String_equals__Ljava_lang_Object__Z : plainFor (⟨"java/lang/String", "equals", "(Ljava/lang/Object;)Z"⟩ : MethodName) = true := by first | exact plainFor_of_name (by first | (simp [plainName, overriddenIn]; done) | decide +kernel) | decide +kernel
theorem d18_0 : decode jdk_42_method_66_code 0 = .ok (.aload_n 0, 1) := by decide +kernel
theorem d18_1 : decode jdk_42_method_66_code 1 = .ok (.aload_n 1, 1) := by decide +kernel
theorem d18_2 : decode jdk_42_method_66_code 2 = .ok (.if_acmp .ne 5, 3) := by decide +kernel
theorem d18_5 : decode jdk_42_method_66_code 5 = .ok (.iconst 1, 1) := by decide +kernel
theorem d18_6 : decode jdk_42_method_66_code 6 = .ok (.ireturn, 1) := by decide +kernel
theorem ef_rm1 (x : Int32) (ca : Int32) (cb : Int32) (cc : Int32) (m : MethodId) : entryFrame m #[(.int x), (.int ca), (.int cb), (.int cc)] 8 = mkF m 0 #[.val (.int x), .val (.int ca), .val (.int cb), .val (.int cc), .unset, .unset, .unset, .unset] [] := by first | (simp [entryFrame, mkF, argsToLocals, Value.category, maxLocals]; done) | rfl
theorem pn_com_example_chitragupta_chitragupta_model_JobResultFailedPinLaw_text__IIII_Ljava_lang_String_ : plainFor (⟨"com/example/chitragupta/chitragupta/model/JobResultFailedPinLaw", "text", "(IIII)Ljava/lang/String;"⟩ : MethodName) = true := by first | exact plainFor_of_name (by first | (simp [plainName, overriddenIn]; done) | decide +kernel) | decide +kernel
theorem d1_0 : decode method_2_code 0 = .ok (.iload_n 1, 1) := by decide +kernel
theorem d1_1 : decode method_2_code 1 = .ok (.sipush 255, 3) := by decide +kernel
theorem d1_4 : decode method_2_code 4 = .ok (.iand, 1) := by decide +kernel
theorem d1_5 : decode method_2_code 5 = .ok (.i2c, 1) := by decide +kernel
theorem d1_6 : decode method_2_code 6 = .ok (.istore 4, 2) := by decide +kernel
theorem d1_8 : decode method_2_code 8 = .ok (.iload_n 2, 1) := by decide +kernel
theorem d1_9 : decode method_2_code 9 = .ok (.sipush 255, 3) := by decide +kernel
theorem d1_12 : decode method_2_code 12 = .ok (.iand, 1) := by decide +kernel
theorem d1_13 : decode method_2_code 13 = .ok (.i2c, 1) := by decide +kernel
theorem d1_14 : decode method_2_code 14 = .ok (.istore 5, 2) := by decide +kernel
theorem d1_16 : decode method_2_code 16 = .ok (.iload_n 3, 1) := by decide +kernel
theorem d1_17 : decode method_2_code 17 = .ok (.sipush 255, 3) := by decide +kernel
theorem d1_20 : decode method_2_code 20 = .ok (.iand, 1) := by decide +kernel
theorem d1_21 : decode method_2_code 21 = .ok (.i2c, 1) := by decide +kernel
theorem d1_22 : decode method_2_code 22 = .ok (.istore 6, 2) := by decide +kernel
theorem d1_24 : decode method_2_code 24 = .ok (.iload_n 0, 1) := by decide +kernel
theorem d1_25 : decode method_2_code 25 = .ok (.ifCond .ne 6, 3) := by decide +kernel
theorem d1_28 : decode method_2_code 28 = .ok (.ldc 7, 2) := by decide +kernel
theorem own_wS {Z : State} {a0 : Array Value} (hw : ∀ d ∈ tables_1, d.before a0 Z = true) : ∀ d ∈ Bundle.stringAtoms, d.before a0 Z = true := fun d hd => hw d ((by decide +kernel : ∀ d ∈ Bundle.stringAtoms, d ∈ tables_1) d hd)
theorem d1_30 : decode method_2_code 30 = .ok (.areturn, 1) := by decide +kernel
theorem d1_31 : decode method_2_code 31 = .ok (.iload_n 0, 1) := by decide +kernel
theorem d1_32 : decode method_2_code 32 = .ok (.iconst 1, 1) := by decide +kernel
theorem d1_33 : decode method_2_code 33 = .ok (.if_icmp .ne 9, 3) := by decide +kernel
theorem d1_36 : decode method_2_code 36 = .ok (.iload 4, 2) := by decide +kernel
theorem d1_38 : decode method_2_code 38 = .ok (.invokestatic 9, 3) := by decide +kernel
theorem pd__28C_29Ljava_2flang_2fString_3b : parseMethodDescriptor "(C)Ljava/lang/String;" = some ⟨[.char], some (.object "java/lang/String")⟩ := by decide +kernel
theorem d1_41 : decode method_2_code 41 = .ok (.areturn, 1) := by decide +kernel
theorem d1_42 : decode method_2_code 42 = .ok (.iload_n 0, 1) := by decide +kernel
theorem d1_43 : decode method_2_code 43 = .ok (.iconst 2, 1) := by decide +kernel
theorem d1_44 : decode method_2_code 44 = .ok (.if_icmp .ne 30, 3) := by decide +kernel
theorem d1_47 : decode method_2_code 47 = .ok (.iconst 2, 1) := by decide +kernel
theorem d1_48 : decode method_2_code 48 = .ok (.newarray .char, 2) := by decide +kernel
theorem d1_50 : decode method_2_code 50 = .ok (.astore 7, 2) := by decide +kernel
theorem d1_52 : decode method_2_code 52 = .ok (.aload 7, 2) := by decide +kernel
theorem d1_54 : decode method_2_code 54 = .ok (.iconst 0, 1) := by decide +kernel
theorem d1_55 : decode method_2_code 55 = .ok (.iload 4, 2) := by decide +kernel
theorem d1_57 : decode method_2_code 57 = .ok (.castore, 1) := by decide +kernel
theorem d1_58 : decode method_2_code 58 = .ok (.aload 7, 2) := by decide +kernel
theorem d1_60 : decode method_2_code 60 = .ok (.iconst 1, 1) := by decide +kernel
theorem d1_61 : decode method_2_code 61 = .ok (.iload 5, 2) := by decide +kernel
theorem d1_63 : decode method_2_code 63 = .ok (.castore, 1) := by decide +kernel
theorem d1_64 : decode method_2_code 64 = .ok (.new 10, 3) := by decide +kernel
theorem d1_67 : decode method_2_code 67 = .ok (.dup, 1) := by decide +kernel
theorem d1_68 : decode method_2_code 68 = .ok (.aload 7, 2) := by decide +kernel
theorem d1_70 : decode method_2_code 70 = .ok (.invokespecial 15, 3) := by decide +kernel
theorem own_wV {Z : State} {a0 : Array Value} (hw : ∀ d ∈ tables_1, d.before a0 Z = true) : ∀ d ∈ StrChars.Road.words, d.before a0 Z = true := fun d hd => hw d ((by decide +kernel : ∀ d ∈ StrChars.Road.words, d ∈ tables_1) d hd)
theorem pd__28_5bC_29V : parseMethodDescriptor "([C)V" = some ⟨[(.array .char)], none⟩ := by decide +kernel
theorem d1_73 : decode method_2_code 73 = .ok (.areturn, 1) := by decide +kernel
theorem d1_74 : decode method_2_code 74 = .ok (.iconst 3, 1) := by decide +kernel
theorem d1_75 : decode method_2_code 75 = .ok (.newarray .char, 2) := by decide +kernel
theorem d1_77 : decode method_2_code 77 = .ok (.astore 7, 2) := by decide +kernel
theorem d1_79 : decode method_2_code 79 = .ok (.aload 7, 2) := by decide +kernel
theorem d1_81 : decode method_2_code 81 = .ok (.iconst 0, 1) := by decide +kernel
theorem d1_82 : decode method_2_code 82 = .ok (.iload 4, 2) := by decide +kernel
theorem d1_84 : decode method_2_code 84 = .ok (.castore, 1) := by decide +kernel
theorem d1_85 : decode method_2_code 85 = .ok (.aload 7, 2) := by decide +kernel
theorem d1_87 : decode method_2_code 87 = .ok (.iconst 1, 1) := by decide +kernel
theorem d1_88 : decode method_2_code 88 = .ok (.iload 5, 2) := by decide +kernel
theorem d1_90 : decode method_2_code 90 = .ok (.castore, 1) := by decide +kernel
theorem d1_91 : decode method_2_code 91 = .ok (.aload 7, 2) := by decide +kernel
theorem d1_93 : decode method_2_code 93 = .ok (.iconst 2, 1) := by decide +kernel
theorem d1_94 : decode method_2_code 94 = .ok (.iload 6, 2) := by decide +kernel
theorem d1_96 : decode method_2_code 96 = .ok (.castore, 1) := by decide +kernel
theorem d1_97 : decode method_2_code 97 = .ok (.new 10, 3) := by decide +kernel
theorem d1_100 : decode method_2_code 100 = .ok (.dup, 1) := by decide +kernel
theorem d1_101 : decode method_2_code 101 = .ok (.aload 7, 2) := by decide +kernel
theorem d1_103 : decode method_2_code 103 = .ok (.invokespecial 15, 3) := by decide +kernel
theorem d1_106 : decode method_2_code 106 = .ok (.areturn, 1) := by decide +kernel
theorem ef_rm9 (a : Addr) (m : MethodId) : entryFrame m #[(.ref a)] 1 = mkF m 0 #[.val (.ref a)] [] := by first | (simp [entryFrame, mkF, argsToLocals, Value.category, maxLocals]; done) | rfl
theorem pn_java_util_Objects_requireNonNull__Ljava_lang_Object__Ljava_lang_Object_ : plainFor (⟨"java/util/Objects", "requireNonNull", "(Ljava/lang/Object;)Ljava/lang/Object;"⟩ : MethodName) = true := by first | exact plainFor_of_name (by first | (simp [plainName, overriddenIn]; done) | decide +kernel) | decide +kernel
theorem d9_0 : decode jdk_31_method_10_code 0 = .ok (.aload_n 0, 1) := by decide +kernel
theorem d9_1 : decode jdk_31_method_10_code 1 = .ok (.ifnonnull 11, 3) := by decide +kernel
theorem d9_12 : decode jdk_31_method_10_code 12 = .ok (.aload_n 0, 1) := by decide +kernel
theorem d9_13 : decode jdk_31_method_10_code 13 = .ok (.areturn, 1) := by decide +kernel
theorem ef_rm10 (a : Addr) (y : Value) (z : Int32) (d : Addr) (h_y : y.isRef = true) (m : MethodId) : entryFrame m #[(.ref a), y, (.int z), (.ref d)] 4 = mkF m 0 #[.val (.ref a), .val y, .val (.int z), .val (.ref d)] [] := by simp [entryFrame, mkF, argsToLocals, XT.cat1 h_y, show (Value.ref a).category = 1 from rfl, show (Value.int z).category = 1 from rfl, show (Value.ref d).category = 1 from rfl]
theorem pn_com_example_chitragupta_chitragupta_model_JobResult__init___Ljava_lang_Long_ZLjava_lang_String__V : plainFor (⟨"com/example/chitragupta/chitragupta/model/JobResult", "<init>", "(Ljava/lang/Long;ZLjava/lang/String;)V"⟩ : MethodName) = true := by first | exact plainFor_of_name (by first | (simp [plainName, overriddenIn]; done) | decide +kernel) | decide +kernel
theorem d10_0 : decode prog_27_method_1_code 0 = .ok (.aload_n 0, 1) := by decide +kernel
theorem d10_1 : decode prog_27_method_1_code 1 = .ok (.invokespecial 1, 3) := by decide +kernel
theorem d10_4 : decode prog_27_method_1_code 4 = .ok (.aload_n 0, 1) := by decide +kernel
theorem d10_5 : decode prog_27_method_1_code 5 = .ok (.aload_n 1, 1) := by decide +kernel
theorem d10_6 : decode prog_27_method_1_code 6 = .ok (.putfield 7, 3) := by decide +kernel
theorem d10_9 : decode prog_27_method_1_code 9 = .ok (.aload_n 0, 1) := by decide +kernel
theorem d10_10 : decode prog_27_method_1_code 10 = .ok (.iload_n 2, 1) := by decide +kernel
theorem d10_11 : decode prog_27_method_1_code 11 = .ok (.putfield 13, 3) := by decide +kernel
theorem d10_14 : decode prog_27_method_1_code 14 = .ok (.aload_n 0, 1) := by decide +kernel
theorem d10_15 : decode prog_27_method_1_code 15 = .ok (.aload_n 3, 1) := by decide +kernel
theorem d10_16 : decode prog_27_method_1_code 16 = .ok (.putfield 17, 3) := by decide +kernel
theorem d10_19 : decode prog_27_method_1_code 19 = .ok (.return_, 1) := by decide +kernel
theorem ef_rm8 (y : Value) (d : Addr) (h_y : y.isRef = true) (m : MethodId) : entryFrame m #[y, (.ref d)] 2 = mkF m 0 #[.val y, .val (.ref d)] [] := by simp [entryFrame, mkF, argsToLocals, XT.cat1 h_y, show (Value.ref d).category = 1 from rfl]
theorem pn_com_example_chitragupta_chitragupta_model_JobResult_failed__Ljava_lang_Long_Ljava_lang_String__Lcom_example_chitragupta_chitragupta_model_JobResult_ : plainFor (⟨"com/example/chitragupta/chitragupta/model/JobResult", "failed", "(Ljava/lang/Long;Ljava/lang/String;)Lcom/example/chitragupta/chitragupta/model/JobResult;"⟩ : MethodName) = true := by first | exact plainFor_of_name (by first | (simp [plainName, overriddenIn]; done) | decide +kernel) | decide +kernel
theorem d8_0 : decode prog_27_method_3_code 0 = .ok (.new 8, 3) := by decide +kernel
theorem d8_3 : decode prog_27_method_3_code 3 = .ok (.dup, 1) := by decide +kernel
theorem d8_4 : decode prog_27_method_3_code 4 = .ok (.aload_n 0, 1) := by decide +kernel
theorem d8_5 : decode prog_27_method_3_code 5 = .ok (.iconst 0, 1) := by decide +kernel
theorem d8_6 : decode prog_27_method_3_code 6 = .ok (.aload_n 1, 1) := by decide +kernel
theorem d8_7 : decode prog_27_method_3_code 7 = .ok (.invokestatic 30, 3) := by decide +kernel
theorem pd__28Ljava_2flang_2fObject_3b_29Ljava_2flang_2fObject_3b : parseMethodDescriptor "(Ljava/lang/Object;)Ljava/lang/Object;" = some ⟨[(.object "java/lang/Object")], some (.object "java/lang/Object")⟩ := by decide +kernel
theorem d8_10 : decode prog_27_method_3_code 10 = .ok (.checkcast 36, 3) := by decide +kernel
theorem d8_13 : decode prog_27_method_3_code 13 = .ok (.invokespecial 27, 3) := by decide +kernel
theorem pd__28Ljava_2flang_2fLong_3bZLjava_2flang_2fString_3b_29V : parseMethodDescriptor "(Ljava/lang/Long;ZLjava/lang/String;)V" = some ⟨[(.object "java/lang/Long"), .boolean, (.object "java/lang/String")], none⟩ := by decide +kernel
theorem d8_16 : decode prog_27_method_3_code 16 = .ok (.areturn, 1) := by decide +kernel
theorem ef_rm12 (a : Addr) (m : MethodId) : entryFrame m #[(.ref a)] 1 = mkF m 0 #[.val (.ref a)] [] := by first | (simp [entryFrame, mkF, argsToLocals, Value.category, maxLocals]; done) | rfl
theorem pn_com_example_chitragupta_chitragupta_model_JobResult_isConflict___Z : plainFor (⟨"com/example/chitragupta/chitragupta/model/JobResult", "isConflict", "()Z"⟩ : MethodName) = true := by first | exact plainFor_of_name (by first | (simp [plainName, overriddenIn]; done) | decide +kernel) | decide +kernel
theorem d12_0 : decode prog_27_method_6_code 0 = .ok (.aload_n 0, 1) := by decide +kernel
theorem d12_1 : decode prog_27_method_6_code 1 = .ok (.getfield 13, 3) := by decide +kernel
theorem d12_4 : decode prog_27_method_6_code 4 = .ok (.ireturn, 1) := by decide +kernel
theorem ef_rm11 (a : Addr) (d : Addr) (m : MethodId) : entryFrame m #[(.ref a)] 1 = mkF m 0 #[.val (.ref a)] [] := by first | (simp [entryFrame, mkF, argsToLocals, Value.category, maxLocals]; done) | rfl
theorem pn_com_example_chitragupta_chitragupta_model_JobResult_hasSucceeded___Z : plainFor (⟨"com/example/chitragupta/chitragupta/model/JobResult", "hasSucceeded", "()Z"⟩ : MethodName) = true := by first | exact plainFor_of_name (by first | (simp [plainName, overriddenIn]; done) | decide +kernel) | decide +kernel
theorem d11_0 : decode prog_27_method_5_code 0 = .ok (.aload_n 0, 1) := by decide +kernel
theorem d11_1 : decode prog_27_method_5_code 1 = .ok (.getfield 17, 3) := by decide +kernel
theorem d11_4 : decode prog_27_method_5_code 4 = .ok (.ifnonnull 7, 3) := by decide +kernel
theorem d11_11 : decode prog_27_method_5_code 11 = .ok (.iconst 0, 1) := by decide +kernel
theorem d11_12 : decode prog_27_method_5_code 12 = .ok (.ireturn, 1) := by decide +kernel
theorem ef_rm13 (a : Addr) (y : Value) (m : MethodId) : entryFrame m #[(.ref a)] 1 = mkF m 0 #[.val (.ref a)] [] := by first | (simp [entryFrame, mkF, argsToLocals, Value.category, maxLocals]; done) | rfl
theorem pn_com_example_chitragupta_chitragupta_model_JobResult_getTicketId___Ljava_lang_Long_ : plainFor (⟨"com/example/chitragupta/chitragupta/model/JobResult", "getTicketId", "()Ljava/lang/Long;"⟩ : MethodName) = true := by first | exact plainFor_of_name (by first | (simp [plainName, overriddenIn]; done) | decide +kernel) | decide +kernel
theorem d13_0 : decode prog_27_method_7_code 0 = .ok (.aload_n 0, 1) := by decide +kernel
theorem d13_1 : decode prog_27_method_7_code 1 = .ok (.getfield 7, 3) := by decide +kernel
theorem d13_4 : decode prog_27_method_7_code 4 = .ok (.areturn, 1) := by decide +kernel
theorem ef_rm15 (a : Addr) (d : Addr) (m : MethodId) : entryFrame m #[(.ref a)] 1 = mkF m 0 #[.val (.ref a)] [] := by first | (simp [entryFrame, mkF, argsToLocals, Value.category, maxLocals]; done) | rfl
theorem pn_com_example_chitragupta_chitragupta_model_JobResult_getDetails___Ljava_lang_String_ : plainFor (⟨"com/example/chitragupta/chitragupta/model/JobResult", "getDetails", "()Ljava/lang/String;"⟩ : MethodName) = true := by first | exact plainFor_of_name (by first | (simp [plainName, overriddenIn]; done) | decide +kernel) | decide +kernel
theorem d15_0 : decode prog_27_method_8_code 0 = .ok (.aload_n 0, 1) := by decide +kernel
theorem d15_1 : decode prog_27_method_8_code 1 = .ok (.getfield 17, 3) := by decide +kernel
theorem d15_4 : decode prog_27_method_8_code 4 = .ok (.areturn, 1) := by decide +kernel
theorem ef_rm0 (px : Int64) (pf : Int32) (p0 : Int32) (p1 : Int32) (p2 : Int32) (m : MethodId) : entryFrame m #[(.long px), (.int pf), (.int p0), (.int p1), (.int p2)] maxLocals = mkF m 0 #[.val (.long px), .second, .val (.int pf), .val (.int p0), .val (.int p1), .val (.int p2), .unset, .unset, .unset, .unset, .unset, .unset, .unset, .unset] [] := by first | (simp [entryFrame, mkF, argsToLocals, Value.category, maxLocals]; done) | rfl
theorem pn_com_example_chitragupta_chitragupta_model_JobResultFailedPinLaw_law__JIIII_Z : plainFor (⟨"com/example/chitragupta/chitragupta/model/JobResultFailedPinLaw", "law", "(JIIII)Z"⟩ : MethodName) = true := by first | exact plainFor_of_name (by first | (simp [plainName, overriddenIn]; done) | decide +kernel) | decide +kernel
theorem pd__28IIII_29Ljava_2flang_2fString_3b : parseMethodDescriptor "(IIII)Ljava/lang/String;" = some ⟨[.int, .int, .int, .int], some (.object "java/lang/String")⟩ := by decide +kernel
theorem pd__28J_29Ljava_2flang_2fLong_3b : parseMethodDescriptor "(J)Ljava/lang/Long;" = some ⟨[.long], some (.object "java/lang/Long")⟩ := by decide +kernel
theorem pd__28Ljava_2flang_2fLong_3bLjava_2flang_2fString_3b_29Lcom_2fexample_2fchitragupta_2fchitragupta_2fmodel_2fJobResult_3b : parseMethodDescriptor "(Ljava/lang/Long;Ljava/lang/String;)Lcom/example/chitragupta/chitragupta/model/JobResult;" = some ⟨[(.object "java/lang/Long"), (.object "java/lang/String")], some (.object "com/example/chitragupta/chitragupta/model/JobResult")⟩ := by decide +kernel
theorem pd__28_29Z : parseMethodDescriptor "()Z" = some ⟨[], some .boolean⟩ := by decide +kernel
theorem pd__28_29Ljava_2flang_2fLong_3b : parseMethodDescriptor "()Ljava/lang/Long;" = some ⟨[], some (.object "java/lang/Long")⟩ := by decide +kernel
theorem pd__28_29J : parseMethodDescriptor "()J" = some ⟨[], some .long⟩ := by decide +kernel
theorem pd__28_29Ljava_2flang_2fString_3b : parseMethodDescriptor "()Ljava/lang/String;" = some ⟨[], some (.object "java/lang/String")⟩ := by decide +kernel
theorem own_wL {Z : State} {a0 : Array Value} (hw : ∀ d ∈ tables_1, d.before a0 Z = true) : ∀ d ∈ StrChars.Road.wordsLen, d.before a0 Z = true := fun d hd => hw d ((by decide +kernel : ∀ d ∈ StrChars.Road.wordsLen, d ∈ tables_1) d hd)
theorem pd__28Ljava_2flang_2fObject_3b_29Z : parseMethodDescriptor "(Ljava/lang/Object;)Z" = some ⟨[(.object "java/lang/Object")], some .boolean⟩ := by decide +kernel
set_option maxRecDepth 65536 in
set_option maxHeartbeats 40000000 in
theorem rm_canE (l : Launch) (Z : State) (a0 : Array Value) (hw : ∀ d ∈ tables_1, d.before a0 Z = true) (n0 : Nat) (h0 : Heap) (hWd : OWorld Z a0) (wc : List Jvm.Cond) (O0 : Old Z n0 h0) (x : Int32) (q0 : ¬ x < 0) (q1 : ¬ (255 : Int32) < x) :
    OMet l Z own_EL n0 (⟨"java/lang/StringLatin1", "canEncode", "(C)Z"⟩ : MethodName) (Jvm.Cond.code (⟨"java/lang/StringLatin1", "canEncode", "(C)Z"⟩ : MethodName) jdk_43_method_3_code 1 (some .boolean) :: wc) ({ frames := 0, cells := 0, slots := 0, locals := 0 } : Room) #[(.int x)] h0 [] (fun vq hq => vq = some (.int (1 : Int32))) := by
  refine own_enter #[.val (.int x)] pn_java_lang_StringLatin1_canEncode__C_Z (ef_rm_canE x) hWd.1 O0 all0 ?_
  intro p e s m below meth c T0 X0 hnm hret
  refine og_iloadN X0 1 d3_0 rfl rfl ?_
  refine og_sipush X0 4 (255 : Int32) d3_1 rfl rfl ?_
  refine og_icmpN X0 7 d3_4 (XT.ii_gt_f q1) rfl ?_
  refine og_iconst X0 8 (1 : Int32) d3_7 rfl rfl ?_
  refine og_goto X0 12 d3_8 (by decide) (by decide) ?_
  refine own_retZ X0 d3_12 hret rfl (by decide) (by decide) ?_
  exact rfl
set_option maxRecDepth 65536 in
set_option maxHeartbeats 40000000 in
theorem rm_toB (l : Launch) (Z : State) (a0 : Array Value) (hw : ∀ d ∈ tables_1, d.before a0 Z = true) (n0 : Nat) (h0 : Heap) (hWd : OWorld Z a0) (wc : List Jvm.Cond) (O0 : Old Z n0 h0) (x : Int32)  :
    OMet l Z own_EL n0 (⟨"java/lang/StringLatin1", "toBytes", "(C)[B"⟩ : MethodName) (Jvm.Cond.code (⟨"java/lang/StringLatin1", "toBytes", "(C)[B"⟩ : MethodName) jdk_43_method_46_code 1 (some (.array .byte)) :: wc) ({ frames := 0, cells := 1, slots := 1, locals := 0 } : Room) #[(.int x)] h0 [] (fun vq hq => ∃ (r : Addr) (kb : ClassId), vq = some (.ref r) ∧ h0.size ≤ r ∧ Arv Z hq r kb .byte (1 : Int32) [(.int ((x).toInt8.toInt32))] (.int (0 : Int32))) := by
  refine own_enter #[.val (.int x)] pn_java_lang_StringLatin1_toBytes__C__B (ef_rm_toB x) hWd.1 O0 all0 ?_
  intro p e s m below meth c T0 X0 hnm hret
  refine og_iconst X0 1 (1 : Int32) d4_0 rfl rfl ?_
  refine own_arr X0 3 d4_1 (hw _ (List.mem_of_getElem? (i := 18) rfl)) (by decide) (cap := 1) (by decide) (by decide) (by decide) (by decide) rfl ?_
  intro T1 h1 b1 kb1 X1 K1 G1 U1 A1
  have f2 : Arv Z h1 b1 kb1 .byte (1 : Int32) [(.int (0 : Int32))] (.int (0 : Int32)) := A1
  refine og_dup X1 4 d4_3 rfl rfl ?_
  refine og_iconst X1 5 (0 : Int32) d4_4 rfl rfl ?_
  refine og_iloadN X1 6 d4_5 rfl rfl ?_
  refine og_i2b X1 7 d4_6 rfl ?_
  refine own_stB X1 8 d4_7 f2 (own_nbb _) (by decide) (by decide) (i := 0) (by decide) (Nat.le_of_ble_eq_true rfl) (List.mem_of_getElem? (i := 0) rfl) rfl ?_
  intro T3 h3 X3 W3 K3 A3
  have f4 : Arv Z h3 b1 kb1 .byte (1 : Int32) [(.int ((x).toInt8.toInt32))] (.int (0 : Int32)) := A3
  refine own_retA X3 d4_8 hret rfl rfl (by decide) (by decide) ?_
  exact ⟨b1, kb1, rfl, G1, f4⟩
set_option maxRecDepth 65536 in
set_option maxHeartbeats 40000000 in
theorem rm_newB (l : Launch) (Z : State) (a0 : Array Value) (hw : ∀ d ∈ tables_1, d.before a0 Z = true) (n0 : Nat) (h0 : Heap) (hWd : OWorld Z a0) (wc : List Jvm.Cond) (O0 : Old Z n0 h0) (a : Addr) (b : Addr) (y : Value) (z : Int32) (q0 : Exa Z h0 a "java/lang/String") (q1 : Fld Z h0 a "java/lang/String" "value" "[B" y) (q2 : Fld Z h0 a "java/lang/String" "coder" "B" (.int z)) (g0 : n0 ≤ a ∧ a < h0.size) :
    OMet l Z own_EL n0 (⟨"java/lang/String", "<init>", "([BB)V"⟩ : MethodName) (Jvm.Cond.code (⟨"java/lang/String", "<init>", "([BB)V"⟩ : MethodName) jdk_42_method_151_code 3 none :: wc) ({ frames := 1, cells := 0, slots := 0, locals := 12 } : Room) #[(.ref a), (.ref b), (.int (0 : Int32))] h0 [a] (fun vq hq => vq = none ∧ Fld Z hq a "java/lang/String" "value" "[B" (.ref b) ∧ Fld Z hq a "java/lang/String" "coder" "B" (.int (0 : Int32))) := by
  refine own_enter #[.val (.ref a), .val (.ref b), .val (.int (0 : Int32))] pn_java_lang_String__init____BB_V (ef_rm_newB a b y z) hWd.1 O0 (allS g0 all0) ?_
  intro p e s m below meth c T0 X0 hnm hret
  refine og_aloadN X0 1 d5_0 rfl rfl rfl ?_
  refine own_obj0 X0 4 (a := a) d5_1 (hw _ (List.mem_of_getElem? (i := 23) rfl)) (hw _ (List.mem_of_getElem? (i := 24) rfl)) (hw _ (List.mem_of_getElem? (i := 25) rfl)) rfl (W := 0) rfl (by decide) (by decide) rfl ?_
  intro T1 X2
  refine og_aloadN X2 5 d5_4 rfl rfl rfl ?_
  refine og_aloadN X2 6 d5_5 rfl rfl rfl ?_
  refine own_put X2 9 d5_6 (host := "") (Or.inl (hw _ (List.mem_of_getElem? (i := 26) rfl))) Via.refl q1 q0 (Or.inr ⟨(hw _ (List.mem_of_getElem? (i := 27) rfl)), rfl, hnm⟩) (hw _ (List.mem_of_getElem? (i := 14) rfl)) (ty := (.array .byte)) (by decide) rfl rfl (List.mem_of_getElem? (i := 0) rfl) rfl ?_
  intro T3 h3 X3 W3 K3 F3
  have f4 := Fld.other W3 q2 (Or.inr (slot_ne (Or.inr (hw _ (List.mem_of_getElem? (i := 29) rfl))) (Or.inr (hw _ (List.mem_of_getElem? (i := 27) rfl))) (by decide) (t := .byte) (t' := (.array .byte)) (by decide) (by decide)))
  refine og_aloadN X3 10 d5_9 rfl rfl rfl ?_
  refine og_iloadN X3 11 d5_10 rfl rfl ?_
  have f5 := q0.keep K3
  refine own_put X3 14 d5_11 (host := "") (Or.inl (hw _ (List.mem_of_getElem? (i := 28) rfl))) Via.refl f4 f5 (Or.inr ⟨(hw _ (List.mem_of_getElem? (i := 29) rfl)), rfl, hnm⟩) (hw _ (List.mem_of_getElem? (i := 14) rfl)) (ty := .byte) (by decide) rfl rfl (List.mem_of_getElem? (i := 0) rfl) rfl ?_
  intro T6 h6 X6 W6 K6 F6
  have f7 := Fld.other W6 F3 (Or.inr (slot_ne (Or.inr (hw _ (List.mem_of_getElem? (i := 27) rfl))) (Or.inr (hw _ (List.mem_of_getElem? (i := 29) rfl))) (by decide) (t := (.array .byte)) (t' := .byte) (by decide) (by decide)))
  refine own_retV X6 d5_14 hret (by decide) (by decide) ?_
  exact ⟨rfl, f7, F6⟩
set_option maxRecDepth 65536 in
set_option maxHeartbeats 40000000 in
theorem rm_valC (l : Launch) (Z : State) (a0 : Array Value) (hw : ∀ d ∈ tables_1, d.before a0 Z = true) (n0 : Nat) (h0 : Heap) (hWd : OWorld Z a0) (wc : List Jvm.Cond) (O0 : Old Z n0 h0) (x : Int32) (q0 : ¬ x < 0) (q1 : ¬ (255 : Int32) < x) :
    OMet l Z own_EL n0 (⟨"java/lang/String", "valueOf", "(C)Ljava/lang/String;"⟩ : MethodName) (Jvm.Cond.code (⟨"java/lang/String", "valueOf", "(C)Ljava/lang/String;"⟩ : MethodName) jdk_42_method_139_code 1 (some (.object "java/lang/String")) :: wc) ({ frames := 2, cells := 2, slots := 5, locals := 27 } : Room) #[(.int x)] h0 [] (fun vq hq => ∃ (r : Addr), vq = some (.ref r) ∧ h0.size ≤ r ∧ OStr Z hq r [x] hq.size) := by
  refine own_enter #[.val (.int x)] pn_java_lang_String_valueOf__C_Ljava_lang_String_ (ef_rm_valC x) hWd.1 O0 all0 ?_
  intro p e s m below meth c T0 X0 hnm hret
  refine own_getS X0 3 d2_0 (host := "") (Or.inl (hw _ (List.mem_of_getElem? (i := 8) rfl))) Via.refl hWd.2.1.1 rfl ?_
  intro T1 X2
  refine og_ifN X2 6 d2_3 (XT.i0_eq_f hWd.2.1.2) rfl ?_
  refine og_iloadN X2 7 d2_6 rfl rfl ?_
  refine own_stat X2 10 (argsL := [(.int x)]) (rest := []) d2_7 (rm_canE l Z a0 hw n0 h0 hWd [] X2.old x q0 q1 ) (hw _ (List.mem_of_getElem? (i := 9) rfl)) (hw _ (List.mem_of_getElem? (i := 10) rfl)) (hw _ (List.mem_of_getElem? (i := 11) rfl)) (hw _ (List.mem_of_getElem? (i := 12) rfl)) (by decide) (lenOf pd__28C_29Z rfl) rfl rfl rfl (W := 0) rfl (by decide) (by decide) (by decide) (by decide) all0 rfl ?_
  intro T3 h3 v3 X3 K3 hQ3
  obtain rfl := hQ3
  show OGo _ _ _ _ T3 (mkF m 10 #[.val (.int x)] [(.int (1 : Int32))])
  refine og_ifN X3 13 d2_10 (XT.i0_eq_f (by decide)) rfl ?_
  refine own_new X3 16 d2_13 (hw _ (List.mem_of_getElem? (i := 13) rfl)) (hw _ (List.mem_of_getElem? (i := 14) rfl)) (hw _ (List.mem_of_getElem? (i := 6) rfl)) (by decide) (by decide) rfl ?_
  intro T4 h4 b4 X4 K4 G4 U4 E4 D4
  have f5 : Fld Z h4 b4 "java/lang/String" "value" "[B" .null := D4 (Or.inr (hw _ (List.mem_of_getElem? (i := 27) rfl))) (ty := (.array .byte)) (by decide)
  have f6 : Fld Z h4 b4 "java/lang/String" "coder" "B" (.int (0 : Int32)) := D4 (Or.inr (hw _ (List.mem_of_getElem? (i := 29) rfl))) (ty := .byte) (by decide)
  refine og_dup X4 17 d2_16 rfl rfl ?_
  refine og_iloadN X4 18 d2_17 rfl rfl ?_
  refine own_stat X4 21 (argsL := [(.int x)]) (rest := [(.ref b4), (.ref b4)]) d2_18 (rm_toB l Z a0 hw n0 h4 hWd [] X4.old x  ) (hw _ (List.mem_of_getElem? (i := 15) rfl)) (hw _ (List.mem_of_getElem? (i := 16) rfl)) (hw _ (List.mem_of_getElem? (i := 11) rfl)) (hw _ (List.mem_of_getElem? (i := 17) rfl)) (by decide) (lenOf pd__28C_29_5bB rfl) rfl rfl rfl (W := 2) rfl (by decide) (by decide) (by decide) (by decide) all0 rfl ?_
  intro T7 h7 v7 X7 K7 hQ7
  obtain ⟨r7, kb7, rfl, ge_r7, f8⟩ := hQ7
  show OGo _ _ _ _ T7 (mkF m 21 #[.val (.int x)] [(.ref r7), (.ref b4), (.ref b4)])
  refine og_iconst X7 22 (0 : Int32) d2_21 rfl rfl ?_
  have f9 := E4.keep K7
  have f10 := f5.keep K7 nin0
  have f11 := f6.keep K7 nin0
  refine own_spec X7 25 (a := b4) (argsL := [(.ref r7), (.int (0 : Int32))]) (rest := [(.ref b4)]) d2_22 rfl (rm_newB l Z a0 hw n0 h7 hWd [] X7.old b4 r7 .null (0 : Int32) f9 f10 f11 (own_svb X7 (List.mem_of_getElem? (i := 0) rfl))) (hw _ (List.mem_of_getElem? (i := 19) rfl)) (hw _ (List.mem_of_getElem? (i := 20) rfl)) (hw _ (List.mem_of_getElem? (i := 6) rfl)) (hw _ (List.mem_of_getElem? (i := 22) rfl)) (by decide) (lenOf pd__28_5bBB_29V rfl) rfl rfl rfl (W := 1) rfl (by decide) (by decide) (by decide) (by decide) (allS (List.mem_of_getElem? (i := 0) rfl) all0) rfl ?_
  intro T12 h12 v12 X12 K12 hQ12
  obtain ⟨rfl, f13, f14⟩ := hQ12
  show OGo _ _ _ _ T12 (mkF m 25 #[.val (.int x)] [(.ref b4)])
  have f15 := f9.keep K12
  have f16 := f8.keep K12 (ninS (Nat.ne_of_gt (Nat.lt_of_lt_of_le U4 ge_r7)) nin0)
  refine own_retA X12 d2_25 hret rfl rfl (by decide) (by decide) ?_
  exact ⟨_, rfl, (Nat.le_trans K3.1 G4), own_mkStr (cs := [x]) (bs := [x.toInt8.toInt32]) (n := 1) f15 f14 f13 f16 rfl (own_lS ⟨q0, q1⟩ own_l0) rfl rfl (by decide)⟩
set_option maxRecDepth 65536 in
set_option maxHeartbeats 40000000 in
theorem rm_num (l : Launch) (Z : State) (a0 : Array Value) (hw : ∀ d ∈ tables_1, d.before a0 Z = true) (n0 : Nat) (h0 : Heap) (hWd : OWorld Z a0) (wc : List Jvm.Cond) (O0 : Old Z n0 h0) (a : Addr)  :
    OMet l Z own_EL n0 (⟨"java/lang/Number", "<init>", "()V"⟩ : MethodName) (Jvm.Cond.code (⟨"java/lang/Number", "<init>", "()V"⟩ : MethodName) jdk_18_method_1_code 1 none :: wc) ({ frames := 1, cells := 0, slots := 0, locals := 12 } : Room) #[(.ref a)] h0 [] (fun vq hq => vq = none) := by
  refine own_enter #[.val (.ref a)] pn_java_lang_Number__init____V (ef_rm_num a) hWd.1 O0 all0 ?_
  intro p e s m below meth c T0 X0 hnm hret
  refine og_aloadN X0 1 d25_0 rfl rfl rfl ?_
  refine own_obj0 X0 4 (a := a) d25_1 (hw _ (List.mem_of_getElem? (i := 134) rfl)) (hw _ (List.mem_of_getElem? (i := 24) rfl)) (hw _ (List.mem_of_getElem? (i := 25) rfl)) rfl (W := 0) rfl (by decide) (by decide) rfl ?_
  intro T1 X2
  refine own_retV X2 d25_4 hret (by decide) (by decide) ?_
  exact rfl
set_option maxRecDepth 65536 in
set_option maxHeartbeats 40000000 in
theorem rm_newL (l : Launch) (Z : State) (a0 : Array Value) (hw : ∀ d ∈ tables_1, d.before a0 Z = true) (n0 : Nat) (h0 : Heap) (hWd : OWorld Z a0) (wc : List Jvm.Cond) (O0 : Old Z n0 h0) (a : Addr) (x : Int64) (y : Int64) (q0 : Exa Z h0 a "java/lang/Long") (q1 : Fld Z h0 a "java/lang/Long" "value" "J" (.long y)) (g0 : n0 ≤ a ∧ a < h0.size) :
    OMet l Z own_EL n0 (⟨"java/lang/Long", "<init>", "(J)V"⟩ : MethodName) (Jvm.Cond.code (⟨"java/lang/Long", "<init>", "(J)V"⟩ : MethodName) jdk_35_method_26_code 3 none :: wc) ({ frames := 2, cells := 0, slots := 0, locals := 24 } : Room) #[(.ref a), (.long x)] h0 [a] (fun vq hq => vq = none ∧ Fld Z hq a "java/lang/Long" "value" "J" (.long x)) := by
  refine own_enter #[.val (.ref a), .val (.long x), .second] pn_java_lang_Long__init___J_V (ef_rm_newL a x y) hWd.1 O0 (allS g0 all0) ?_
  intro p e s m below meth c T0 X0 hnm hret
  refine og_aloadN X0 1 d24_0 rfl rfl rfl ?_
  refine own_spec X0 4 (a := a) (argsL := []) (rest := []) d24_1 rfl (rm_num l Z a0 hw n0 h0 hWd [] X0.old a  ) (hw _ (List.mem_of_getElem? (i := 128) rfl)) (hw _ (List.mem_of_getElem? (i := 129) rfl)) (hw _ (List.mem_of_getElem? (i := 132) rfl)) (hw _ (List.mem_of_getElem? (i := 133) rfl)) (by decide) (lenOf pd__28_29V rfl) rfl rfl rfl (W := 0) rfl (by decide) (by decide) (by decide) (by decide) all0 rfl ?_
  intro T1 h1 v1 X1 K1 hQ1
  obtain rfl := hQ1
  show OGo _ _ _ _ T1 (mkF m 4 #[.val (.ref a), .val (.long x), .second] [])
  refine og_aloadN X1 5 d24_4 rfl rfl rfl ?_
  refine og_lloadN X1 6 d24_5 rfl rfl ?_
  have f2 := q1.keep K1 nin0
  have f3 := q0.keep K1
  refine own_put X1 9 d24_6 (host := "") (Or.inl (hw _ (List.mem_of_getElem? (i := 79) rfl))) Via.refl f2 f3 (Or.inr ⟨(hw _ (List.mem_of_getElem? (i := 80) rfl)), rfl, hnm⟩) (hw _ (List.mem_of_getElem? (i := 123) rfl)) (ty := .long) (by decide) rfl rfl (List.mem_of_getElem? (i := 0) rfl) rfl ?_
  intro T4 h4 X4 W4 K4 F4
  refine own_retV X4 d24_9 hret (by decide) (by decide) ?_
  exact ⟨rfl, F4⟩
set_option maxRecDepth 65536 in
set_option maxHeartbeats 40000000 in
theorem rm_valL (l : Launch) (Z : State) (a0 : Array Value) (hw : ∀ d ∈ tables_1, d.before a0 Z = true) (n0 : Nat) (h0 : Heap) (hWd : OWorld Z a0) (wc : List Jvm.Cond) (O0 : Old Z n0 h0) (x : Int64)  :
    OMet l Z own_EL n0 (⟨"java/lang/Long", "valueOf", "(J)Ljava/lang/Long;"⟩ : MethodName) (Jvm.Cond.code (⟨"java/lang/Long", "valueOf", "(J)Ljava/lang/Long;"⟩ : MethodName) jdk_35_method_24_code 3 (some (.object "java/lang/Long")) :: wc) ({ frames := 3, cells := 1, slots := 1, locals := 39 } : Room) #[(.long x)] h0 [] (fun vq hq => ∃ (r : Addr), vq = some (.ref r) ∧ Exa Z hq r "java/lang/Long" ∧ Fld Z hq r "java/lang/Long" "value" "J" (.long x)) := by
  refine own_enter #[.val (.long x), .second, .unset] pn_java_lang_Long_valueOf__J_Ljava_lang_Long_ (ef_rm_valL x) hWd.1 O0 all0 ?_
  intro p e s m below meth c T0 X0 hnm hret
  refine og_sipush X0 3 (128 : Int32) d7_0 rfl rfl ?_
  refine og_istoreN X0 4 #[.val (.long x), .second, .val (.int (128 : Int32))] d7_3 rfl rfl ?_
  refine og_lloadN X0 5 d7_4 rfl rfl ?_
  refine own_ldc2L X0 8 (v := (-128 : Int64)) d7_5 (hw _ (List.mem_of_getElem? (i := 34) rfl)) rfl ?_
  refine og_lcmp X0 9 d7_8 rfl ?_
  by_cases hc1 : x < (-128 : Int64)
  · -- x < (-128 : Int64)
    refine og_ifY X0 31 d7_9 (XT.ll_lt_t hc1) (by decide) (by decide) ?_
    refine own_new X0 34 d7_31 (hw _ (List.mem_of_getElem? (i := 122) rfl)) (hw _ (List.mem_of_getElem? (i := 123) rfl)) (hw _ (List.mem_of_getElem? (i := 32) rfl)) (by decide) (by decide) rfl ?_
    intro T2 h2 b2 X2 K2 G2 U2 E2 D2
    have f3 : Fld Z h2 b2 "java/lang/Long" "value" "J" (.long (0 : Int64)) := D2 (Or.inr (hw _ (List.mem_of_getElem? (i := 80) rfl))) (ty := .long) (by decide)
    refine og_dup X2 35 d7_34 rfl rfl ?_
    refine og_lloadN X2 36 d7_35 rfl rfl ?_
    refine own_spec X2 39 (a := b2) (argsL := [(.long x)]) (rest := [(.ref b2)]) d7_36 rfl (rm_newL l Z a0 hw n0 h2 hWd [] X2.old b2 x (0 : Int64) E2 f3 (own_svb X2 (List.mem_of_getElem? (i := 0) rfl))) (hw _ (List.mem_of_getElem? (i := 124) rfl)) (hw _ (List.mem_of_getElem? (i := 125) rfl)) (hw _ (List.mem_of_getElem? (i := 32) rfl)) (hw _ (List.mem_of_getElem? (i := 127) rfl)) (by decide) (lenOf pd__28J_29V rfl) rfl rfl rfl (W := 1) rfl (by decide) (by decide) (by decide) (by decide) (allS (List.mem_of_getElem? (i := 0) rfl) all0) rfl ?_
    intro T4 h4 v4 X4 K4 hQ4
    obtain ⟨rfl, f5⟩ := hQ4
    show OGo _ _ _ _ T4 (mkF m 39 #[.val (.long x), .second, .val (.int (128 : Int32))] [(.ref b2)])
    have f6 := E2.keep K4
    refine own_retA X4 d7_39 hret rfl rfl (by decide) (by decide) ?_
    exact ⟨b2, rfl, f6, f5⟩
  · -- not
    refine og_ifN X0 12 d7_9 (XT.ll_lt_f hc1) rfl ?_
    refine og_lloadN X0 13 d7_12 rfl rfl ?_
    refine own_ldc2L X0 16 (v := (127 : Int64)) d7_13 (hw _ (List.mem_of_getElem? (i := 35) rfl)) rfl ?_
    refine og_lcmp X0 17 d7_16 rfl ?_
    by_cases hc7 : (127 : Int64) < x
    · -- (127 : Int64) < x
      refine og_ifY X0 31 d7_17 (XT.ll_gt_t hc7) (by decide) (by decide) ?_
      refine own_new X0 34 d7_31 (hw _ (List.mem_of_getElem? (i := 122) rfl)) (hw _ (List.mem_of_getElem? (i := 123) rfl)) (hw _ (List.mem_of_getElem? (i := 32) rfl)) (by decide) (by decide) rfl ?_
      intro T8 h8 b8 X8 K8 G8 U8 E8 D8
      have f9 : Fld Z h8 b8 "java/lang/Long" "value" "J" (.long (0 : Int64)) := D8 (Or.inr (hw _ (List.mem_of_getElem? (i := 80) rfl))) (ty := .long) (by decide)
      refine og_dup X8 35 d7_34 rfl rfl ?_
      refine og_lloadN X8 36 d7_35 rfl rfl ?_
      refine own_spec X8 39 (a := b8) (argsL := [(.long x)]) (rest := [(.ref b8)]) d7_36 rfl (rm_newL l Z a0 hw n0 h8 hWd [] X8.old b8 x (0 : Int64) E8 f9 (own_svb X8 (List.mem_of_getElem? (i := 0) rfl))) (hw _ (List.mem_of_getElem? (i := 124) rfl)) (hw _ (List.mem_of_getElem? (i := 125) rfl)) (hw _ (List.mem_of_getElem? (i := 32) rfl)) (hw _ (List.mem_of_getElem? (i := 127) rfl)) (by decide) (lenOf pd__28J_29V rfl) rfl rfl rfl (W := 1) rfl (by decide) (by decide) (by decide) (by decide) (allS (List.mem_of_getElem? (i := 0) rfl) all0) rfl ?_
      intro T10 h10 v10 X10 K10 hQ10
      obtain ⟨rfl, f11⟩ := hQ10
      show OGo _ _ _ _ T10 (mkF m 39 #[.val (.long x), .second, .val (.int (128 : Int32))] [(.ref b8)])
      have f12 := E8.keep K10
      refine own_retA X10 d7_39 hret rfl rfl (by decide) (by decide) ?_
      exact ⟨b8, rfl, f12, f11⟩
    · -- not
      refine og_ifN X0 20 d7_17 (XT.ll_gt_f hc7) rfl ?_
      obtain ⟨ca13, cc13, hS13, hB13⟩ := hWd.2.2
      refine own_getS X0 23 d7_20 (host := "") (Or.inl (hw _ (List.mem_of_getElem? (i := 36) rfl))) Via.refl hS13 rfl ?_
      intro T14 X15
      refine og_lloadN X15 24 d7_23 rfl rfl ?_
      refine og_l2i X15 25 d7_24 rfl ?_
      refine og_sipush X15 28 (128 : Int32) d7_25 rfl rfl ?_
      refine og_iadd X15 29 d7_28 rfl ?_
      have lc16 := own_lc hc1 hc7
      refine own_ldBox X15 30 d7_29 hB13 lc16.1 lc16.2.1 rfl ?_
      intro b16 E16 F16
      have G16 : Fld Z h0 b16 "java/lang/Long" "value" "J" (.long x) := by have q : Fld Z h0 b16 "java/lang/Long" "value" "J" (.long ((x.toInt32 + 128) - 128).toInt64) := F16; rwa [lc16.2.2] at q
      refine own_retA X15 d7_30 hret rfl rfl (by decide) (by decide) ?_
      exact ⟨b16, rfl, E16, G16⟩
set_option maxRecDepth 65536 in
set_option maxHeartbeats 40000000 in
theorem rm_lval (l : Launch) (Z : State) (a0 : Array Value) (hw : ∀ d ∈ tables_1, d.before a0 Z = true) (n0 : Nat) (h0 : Heap) (hWd : OWorld Z a0) (wc : List Jvm.Cond) (O0 : Old Z n0 h0) (a : Addr) (x : Int64) (q0 : Fld Z h0 a "java/lang/Long" "value" "J" (.long x)) :
    OMet l Z own_EL n0 (⟨"java/lang/Long", "longValue", "()J"⟩ : MethodName) (Jvm.Cond.code (⟨"java/lang/Long", "longValue", "()J"⟩ : MethodName) jdk_35_method_31_code 1 (some .long) :: wc) ({ frames := 0, cells := 0, slots := 0, locals := 0 } : Room) #[(.ref a)] h0 [] (fun vq hq => vq = some (.long x)) := by
  refine own_enter #[.val (.ref a)] pn_java_lang_Long_longValue___J (ef_rm_lval a x) hWd.1 O0 all0 ?_
  intro p e s m below meth c T0 X0 hnm hret
  refine og_aloadN X0 1 d14_0 rfl rfl rfl ?_
  refine own_get X0 4 d14_1 (host := "") (Or.inl (hw _ (List.mem_of_getElem? (i := 79) rfl))) Via.refl q0 rfl ?_
  intro T1 X2
  refine own_retL X2 d14_4 hret (by decide) (by decide) ?_
  exact rfl
set_option maxRecDepth 65536 in
set_option maxHeartbeats 40000000 in
theorem rm18 (l : Launch) (Z : State) (a0 : Array Value) (hw : ∀ d ∈ tables_1, d.before a0 Z = true) (n0 : Nat) (h0 : Heap) (hWd : OWorld Z a0) (wc : List Jvm.Cond) (O0 : Old Z n0 h0) (a : Addr)  :
    OMet l Z own_EL n0 (⟨"java/lang/String", "equals", "(Ljava/lang/Object;)Z"⟩ : MethodName) (Jvm.Cond.code (⟨"java/lang/String", "equals", "(Ljava/lang/Object;)Z"⟩ : MethodName) jdk_42_method_66_code 3 (some .boolean) :: wc) ({ frames := 0, cells := 0, slots := 0, locals := 0 } : Room) #[(.ref a), (.ref a)] h0 [] (fun vq hq => vq = some (.int (1 : Int32))) := by
  refine own_enter #[.val (.ref a), .val (.ref a), .unset] pn_java_lang_String_equals__Ljava_lang_Object__Z (ef_rm18 a) hWd.1 O0 all0 ?_
  intro p e s m below meth c T0 X0 hnm hret
  refine og_aloadN X0 1 d18_0 rfl rfl rfl ?_
  refine og_aloadN X0 2 d18_1 rfl rfl rfl ?_
  refine og_acmpN X0 5 d18_2 rfl rfl (XT.aa_ne_f rfl) rfl ?_
  refine og_iconst X0 6 (1 : Int32) d18_5 rfl rfl ?_
  refine own_retZ X0 d18_6 hret rfl (by decide) (by decide) ?_
  exact rfl
set_option maxRecDepth 65536 in
set_option maxHeartbeats 40000000 in
theorem rm1 (l : Launch) (Z : State) (a0 : Array Value) (hw : ∀ d ∈ tables_1, d.before a0 Z = true) (n0 : Nat) (h0 : Heap) (hWd : OWorld Z a0) (wc : List Jvm.Cond) (O0 : Old Z n0 h0) (x : Int32) (ca : Int32) (cb : Int32) (cc : Int32)  :
    OMet l Z own_EL n0 (⟨"com/example/chitragupta/chitragupta/model/JobResultFailedPinLaw", "text", "(IIII)Ljava/lang/String;"⟩ : MethodName) (Jvm.Cond.code (⟨"com/example/chitragupta/chitragupta/model/JobResultFailedPinLaw", "text", "(IIII)Ljava/lang/String;"⟩ : MethodName) method_2_code 8 (some (.object "java/lang/String")) :: wc) ({ frames := 4, cells := 3, slots := 10, locals := 66 } : Room) #[(.int x), (.int ca), (.int cb), (.int cc)] h0 [] (fun vq hq => ∃ (r : Addr), vq = some (.ref r) ∧ OStr Z hq r (own_txt x ca cb cc) hq.size) := by
  refine own_enter #[.val (.int x), .val (.int ca), .val (.int cb), .val (.int cc), .unset, .unset, .unset, .unset] pn_com_example_chitragupta_chitragupta_model_JobResultFailedPinLaw_text__IIII_Ljava_lang_String_ (ef_rm1 x ca cb cc) hWd.1 O0 all0 ?_
  intro p e s m below meth c T0 X0 hnm hret
  refine og_iloadN X0 1 d1_0 rfl rfl ?_
  refine og_sipush X0 4 (255 : Int32) d1_1 rfl rfl ?_
  refine og_iand X0 5 d1_4 rfl ?_
  refine og_i2c8 X0 6 d1_5 rfl ?_
  refine og_istore X0 8 #[.val (.int x), .val (.int ca), .val (.int cb), .val (.int cc), .val (.int (ca &&& (255 : Int32))), .unset, .unset, .unset] d1_6 rfl rfl ?_
  refine og_iloadN X0 9 d1_8 rfl rfl ?_
  refine og_sipush X0 12 (255 : Int32) d1_9 rfl rfl ?_
  refine og_iand X0 13 d1_12 rfl ?_
  refine og_i2c8 X0 14 d1_13 rfl ?_
  refine og_istore X0 16 #[.val (.int x), .val (.int ca), .val (.int cb), .val (.int cc), .val (.int (ca &&& (255 : Int32))), .val (.int (cb &&& (255 : Int32))), .unset, .unset] d1_14 rfl rfl ?_
  refine og_iloadN X0 17 d1_16 rfl rfl ?_
  refine og_sipush X0 20 (255 : Int32) d1_17 rfl rfl ?_
  refine og_iand X0 21 d1_20 rfl ?_
  refine og_i2c8 X0 22 d1_21 rfl ?_
  refine og_istore X0 24 #[.val (.int x), .val (.int ca), .val (.int cb), .val (.int cc), .val (.int (ca &&& (255 : Int32))), .val (.int (cb &&& (255 : Int32))), .val (.int (cc &&& (255 : Int32))), .unset] d1_22 rfl rfl ?_
  refine og_iloadN X0 25 d1_24 rfl rfl ?_
  by_cases hc1 : x = 0
  · -- x = 0
    refine og_ifN X0 28 d1_25 (XT.i0_ne_f hc1) rfl ?_
    refine own_ldcR X0 30 (cap := 0) (vs := []) (z := (0 : Int32)) d1_28 (List.mem_of_getElem? (i := 0) rfl) (hw _ (List.mem_of_getElem? (i := 119) rfl)) (own_wS hw) ⟨by decide, rfl⟩ (by decide) rfl (by decide) (by decide) (by decide) (by decide) rfl ?_
    intro T2 h2 a2 b2 kb2 X2 K2 E2 C2 V2 A2 far2
    have f3 := own_mkStr (cs := []) (bs := []) (n := 0) E2 C2 V2 A2 rfl own_l0 rfl rfl (by decide)
    refine own_retA X2 d1_30 hret rfl rfl (by decide) (by decide) ?_
    exact ⟨_, rfl, by have q := f3.top; rwa [show [] = own_txt x ca cb cc by rw [own_txt, if_pos hc1]] at q⟩
  · -- not
    refine og_ifY X0 31 d1_25 (XT.i0_ne_t hc1) (by decide) (by decide) ?_
    refine og_iloadN X0 32 d1_31 rfl rfl ?_
    refine og_iconst X0 33 (1 : Int32) d1_32 rfl rfl ?_
    by_cases hc4 : x = (1 : Int32)
    · -- x = (1 : Int32)
      refine og_icmpN X0 36 d1_33 (XT.ii_ne_f hc4) rfl ?_
      refine og_iload X0 38 d1_36 rfl rfl ?_
      refine own_stat X0 41 (argsL := [(.int (ca &&& (255 : Int32)))]) (rest := []) d1_38 (rm_valC l Z a0 hw n0 h0 hWd [] X0.old (ca &&& (255 : Int32)) (own_lat8 _).1 (own_lat8 _).2 ) (hw _ (List.mem_of_getElem? (i := 4) rfl)) (hw _ (List.mem_of_getElem? (i := 5) rfl)) (hw _ (List.mem_of_getElem? (i := 6) rfl)) (hw _ (List.mem_of_getElem? (i := 7) rfl)) (by decide) (lenOf pd__28C_29Ljava_2flang_2fString_3b rfl) rfl rfl rfl (W := 0) rfl (by decide) (by decide) (by decide) (by decide) all0 rfl ?_
      intro T5 h5 v5 X5 K5 hQ5
      obtain ⟨r5, rfl, ge_r5, f6⟩ := hQ5
      show OGo _ _ _ _ T5 (mkF m 41 #[.val (.int x), .val (.int ca), .val (.int cb), .val (.int cc), .val (.int (ca &&& (255 : Int32))), .val (.int (cb &&& (255 : Int32))), .val (.int (cc &&& (255 : Int32))), .unset] [(.ref r5)])
      refine own_retA X5 d1_41 hret rfl rfl (by decide) (by decide) ?_
      exact ⟨_, rfl, by have q := f6.top; rwa [show [(ca &&& (255 : Int32))] = own_txt x ca cb cc by rw [own_txt, if_neg hc1, if_pos hc4]] at q⟩
    · -- not
      refine og_icmpY X0 42 d1_33 (XT.ii_ne_t hc4) (by decide) (by decide) ?_
      refine og_iloadN X0 43 d1_42 rfl rfl ?_
      refine og_iconst X0 44 (2 : Int32) d1_43 rfl rfl ?_
      by_cases hc7 : x = (2 : Int32)
      · -- x = (2 : Int32)
        refine og_icmpN X0 47 d1_44 (XT.ii_ne_f hc7) rfl ?_
        refine og_iconst X0 48 (2 : Int32) d1_47 rfl rfl ?_
        refine own_arr X0 50 d1_48 (hw _ (List.mem_of_getElem? (i := 101) rfl)) (by decide) (cap := 2) (by decide) (by decide) (by decide) (by decide) rfl ?_
        intro T8 h8 b8 kb8 X8 K8 G8 U8 A8
        have f9 : Arv Z h8 b8 kb8 .char (2 : Int32) [(.int (0 : Int32)), (.int (0 : Int32))] (.int (0 : Int32)) := A8
        refine og_astore X8 52 #[.val (.int x), .val (.int ca), .val (.int cb), .val (.int cc), .val (.int (ca &&& (255 : Int32))), .val (.int (cb &&& (255 : Int32))), .val (.int (cc &&& (255 : Int32))), .val (.ref b8)] d1_50 rfl rfl rfl ?_
        refine og_aload X8 54 d1_52 rfl rfl rfl ?_
        refine og_iconst X8 55 (0 : Int32) d1_54 rfl rfl ?_
        refine og_iload X8 57 d1_55 rfl rfl ?_
        refine own_stC X8 58 d1_57 f9 (own_nc8 _) (by decide) (by decide) (i := 0) (by decide) (Nat.le_of_ble_eq_true rfl) (List.mem_of_getElem? (i := 0) rfl) rfl ?_
        intro T10 h10 X10 W10 K10 A10
        have f11 : Arv Z h10 b8 kb8 .char (2 : Int32) [(.int (ca &&& (255 : Int32))), (.int (0 : Int32))] (.int (0 : Int32)) := A10
        refine og_aload X10 60 d1_58 rfl rfl rfl ?_
        refine og_iconst X10 61 (1 : Int32) d1_60 rfl rfl ?_
        refine og_iload X10 63 d1_61 rfl rfl ?_
        refine own_stC X10 64 d1_63 f11 (own_nc8 _) (by decide) (by decide) (i := 1) (by decide) (Nat.le_of_ble_eq_true rfl) (List.mem_of_getElem? (i := 0) rfl) rfl ?_
        intro T12 h12 X12 W12 K12 A12
        have f13 : Arv Z h12 b8 kb8 .char (2 : Int32) [(.int (ca &&& (255 : Int32))), (.int (cb &&& (255 : Int32)))] (.int (0 : Int32)) := A12
        refine own_new X12 67 d1_64 (hw _ (List.mem_of_getElem? (i := 102) rfl)) (hw _ (List.mem_of_getElem? (i := 14) rfl)) (hw _ (List.mem_of_getElem? (i := 6) rfl)) (by decide) (by decide) rfl ?_
        intro T14 h14 b14 X14 K14 G14 U14 E14 D14
        have f15 : Fld Z h14 b14 "java/lang/String" "value" "[B" .null := D14 (Or.inr (hw _ (List.mem_of_getElem? (i := 27) rfl))) (ty := (.array .byte)) (by decide)
        have f16 : Fld Z h14 b14 "java/lang/String" "coder" "B" (.int (0 : Int32)) := D14 (Or.inr (hw _ (List.mem_of_getElem? (i := 29) rfl))) (ty := .byte) (by decide)
        refine og_dup X14 68 d1_67 rfl rfl ?_
        refine og_aload X14 70 d1_68 rfl rfl rfl ?_
        have f17 := f13.keep K14 nin0
        have hp18 : ∀ c ∈ ([(ca &&& (255 : Int32)), (cb &&& (255 : Int32))] : List Int32), ¬ c < 0 ∧ ¬ (255 : Int32) < c := (own_lS (own_lat8 _) (own_lS (own_lat8 _) own_l0))
        refine own_specB X14 73 (a := b14) (argsL := [(.ref b8)]) (rest := [(.ref b14)]) d1_70 rfl (fun vm0 hZ => StrChars.Road.backV (W := 1) hZ (own_wV hw) (kI := 4) (hw _ (List.mem_of_getElem? (i := 14) rfl)) (cs := [(ca &&& (255 : Int32)), (cb &&& (255 : Int32))]) (n := 2) (own_svb X14 (List.mem_of_getElem? (i := 0) rfl)).1 (own_n0 X14) E14 f15 f16 f17 (hWd.2.1.1.ext X14.old.2) hWd.2.1.2 rfl rfl (by decide) (by decide) hp18 rfl (by decide) (by decide)) (fun v h' L q => ⟨q.2.1, q.2.2.1⟩) (hw _ (List.mem_of_getElem? (i := 103) rfl)) (hw _ (List.mem_of_getElem? (i := 104) rfl)) (hw _ (List.mem_of_getElem? (i := 105) rfl)) (by decide) (lenOf pd__28_5bC_29V rfl) rfl rfl rfl (W := 1) rfl (by decide) (by decide) (allS (List.mem_of_getElem? (i := 0) rfl) all0) rfl ?_
        intro T18 h18 v18 L18 X18 K18 hQ18
        obtain ⟨rfl, -, -, E18, C18, t18, k18, -, gt18, nt18, V18, A18⟩ := hQ18
        have f19 := own_mkStr E18 C18 V18 A18 rfl hp18 rfl rfl (Nat.le_of_ble_eq_true rfl)
        show OGo _ _ _ _ T18 (mkF m 73 #[.val (.int x), .val (.int ca), .val (.int cb), .val (.int cc), .val (.int (ca &&& (255 : Int32))), .val (.int (cb &&& (255 : Int32))), .val (.int (cc &&& (255 : Int32))), .val (.ref b8)] [(.ref b14)])
        refine own_retA X18 d1_73 hret rfl rfl (by decide) (by decide) ?_
        exact ⟨_, rfl, by have q := f19.top; rwa [show [(ca &&& (255 : Int32)), (cb &&& (255 : Int32))] = own_txt x ca cb cc by rw [own_txt, if_neg hc1, if_neg hc4, if_pos hc7]] at q⟩
      · -- not
        refine og_icmpY X0 74 d1_44 (XT.ii_ne_t hc7) (by decide) (by decide) ?_
        refine og_iconst X0 75 (3 : Int32) d1_74 rfl rfl ?_
        refine own_arr X0 77 d1_75 (hw _ (List.mem_of_getElem? (i := 101) rfl)) (by decide) (cap := 3) (by decide) (by decide) (by decide) (by decide) rfl ?_
        intro T20 h20 b20 kb20 X20 K20 G20 U20 A20
        have f21 : Arv Z h20 b20 kb20 .char (3 : Int32) [(.int (0 : Int32)), (.int (0 : Int32)), (.int (0 : Int32))] (.int (0 : Int32)) := A20
        refine og_astore X20 79 #[.val (.int x), .val (.int ca), .val (.int cb), .val (.int cc), .val (.int (ca &&& (255 : Int32))), .val (.int (cb &&& (255 : Int32))), .val (.int (cc &&& (255 : Int32))), .val (.ref b20)] d1_77 rfl rfl rfl ?_
        refine og_aload X20 81 d1_79 rfl rfl rfl ?_
        refine og_iconst X20 82 (0 : Int32) d1_81 rfl rfl ?_
        refine og_iload X20 84 d1_82 rfl rfl ?_
        refine own_stC X20 85 d1_84 f21 (own_nc8 _) (by decide) (by decide) (i := 0) (by decide) (Nat.le_of_ble_eq_true rfl) (List.mem_of_getElem? (i := 0) rfl) rfl ?_
        intro T22 h22 X22 W22 K22 A22
        have f23 : Arv Z h22 b20 kb20 .char (3 : Int32) [(.int (ca &&& (255 : Int32))), (.int (0 : Int32)), (.int (0 : Int32))] (.int (0 : Int32)) := A22
        refine og_aload X22 87 d1_85 rfl rfl rfl ?_
        refine og_iconst X22 88 (1 : Int32) d1_87 rfl rfl ?_
        refine og_iload X22 90 d1_88 rfl rfl ?_
        refine own_stC X22 91 d1_90 f23 (own_nc8 _) (by decide) (by decide) (i := 1) (by decide) (Nat.le_of_ble_eq_true rfl) (List.mem_of_getElem? (i := 0) rfl) rfl ?_
        intro T24 h24 X24 W24 K24 A24
        have f25 : Arv Z h24 b20 kb20 .char (3 : Int32) [(.int (ca &&& (255 : Int32))), (.int (cb &&& (255 : Int32))), (.int (0 : Int32))] (.int (0 : Int32)) := A24
        refine og_aload X24 93 d1_91 rfl rfl rfl ?_
        refine og_iconst X24 94 (2 : Int32) d1_93 rfl rfl ?_
        refine og_iload X24 96 d1_94 rfl rfl ?_
        refine own_stC X24 97 d1_96 f25 (own_nc8 _) (by decide) (by decide) (i := 2) (by decide) (Nat.le_of_ble_eq_true rfl) (List.mem_of_getElem? (i := 0) rfl) rfl ?_
        intro T26 h26 X26 W26 K26 A26
        have f27 : Arv Z h26 b20 kb20 .char (3 : Int32) [(.int (ca &&& (255 : Int32))), (.int (cb &&& (255 : Int32))), (.int (cc &&& (255 : Int32)))] (.int (0 : Int32)) := A26
        refine own_new X26 100 d1_97 (hw _ (List.mem_of_getElem? (i := 102) rfl)) (hw _ (List.mem_of_getElem? (i := 14) rfl)) (hw _ (List.mem_of_getElem? (i := 6) rfl)) (by decide) (by decide) rfl ?_
        intro T28 h28 b28 X28 K28 G28 U28 E28 D28
        have f29 : Fld Z h28 b28 "java/lang/String" "value" "[B" .null := D28 (Or.inr (hw _ (List.mem_of_getElem? (i := 27) rfl))) (ty := (.array .byte)) (by decide)
        have f30 : Fld Z h28 b28 "java/lang/String" "coder" "B" (.int (0 : Int32)) := D28 (Or.inr (hw _ (List.mem_of_getElem? (i := 29) rfl))) (ty := .byte) (by decide)
        refine og_dup X28 101 d1_100 rfl rfl ?_
        refine og_aload X28 103 d1_101 rfl rfl rfl ?_
        have f31 := f27.keep K28 nin0
        have hp32 : ∀ c ∈ ([(ca &&& (255 : Int32)), (cb &&& (255 : Int32)), (cc &&& (255 : Int32))] : List Int32), ¬ c < 0 ∧ ¬ (255 : Int32) < c := (own_lS (own_lat8 _) (own_lS (own_lat8 _) (own_lS (own_lat8 _) own_l0)))
        refine own_specB X28 106 (a := b28) (argsL := [(.ref b20)]) (rest := [(.ref b28)]) d1_103 rfl (fun vm0 hZ => StrChars.Road.backV (W := 1) hZ (own_wV hw) (kI := 4) (hw _ (List.mem_of_getElem? (i := 14) rfl)) (cs := [(ca &&& (255 : Int32)), (cb &&& (255 : Int32)), (cc &&& (255 : Int32))]) (n := 3) (own_svb X28 (List.mem_of_getElem? (i := 0) rfl)).1 (own_n0 X28) E28 f29 f30 f31 (hWd.2.1.1.ext X28.old.2) hWd.2.1.2 rfl rfl (by decide) (by decide) hp32 rfl (by decide) (by decide)) (fun v h' L q => ⟨q.2.1, q.2.2.1⟩) (hw _ (List.mem_of_getElem? (i := 103) rfl)) (hw _ (List.mem_of_getElem? (i := 104) rfl)) (hw _ (List.mem_of_getElem? (i := 105) rfl)) (by decide) (lenOf pd__28_5bC_29V rfl) rfl rfl rfl (W := 1) rfl (by decide) (by decide) (allS (List.mem_of_getElem? (i := 0) rfl) all0) rfl ?_
        intro T32 h32 v32 L32 X32 K32 hQ32
        obtain ⟨rfl, -, -, E32, C32, t32, k32, -, gt32, nt32, V32, A32⟩ := hQ32
        have f33 := own_mkStr E32 C32 V32 A32 rfl hp32 rfl rfl (Nat.le_of_ble_eq_true rfl)
        show OGo _ _ _ _ T32 (mkF m 106 #[.val (.int x), .val (.int ca), .val (.int cb), .val (.int cc), .val (.int (ca &&& (255 : Int32))), .val (.int (cb &&& (255 : Int32))), .val (.int (cc &&& (255 : Int32))), .val (.ref b20)] [(.ref b28)])
        refine own_retA X32 d1_106 hret rfl rfl (by decide) (by decide) ?_
        exact ⟨_, rfl, by have q := f33.top; rwa [show [(ca &&& (255 : Int32)), (cb &&& (255 : Int32)), (cc &&& (255 : Int32))] = own_txt x ca cb cc by rw [own_txt, if_neg hc1, if_neg hc4, if_neg hc7]] at q⟩
set_option maxRecDepth 65536 in
set_option maxHeartbeats 40000000 in
theorem rm9 (l : Launch) (Z : State) (a0 : Array Value) (hw : ∀ d ∈ tables_1, d.before a0 Z = true) (n0 : Nat) (h0 : Heap) (hWd : OWorld Z a0) (wc : List Jvm.Cond) (O0 : Old Z n0 h0) (a : Addr)  :
    OMet l Z own_EL n0 (⟨"java/util/Objects", "requireNonNull", "(Ljava/lang/Object;)Ljava/lang/Object;"⟩ : MethodName) (Jvm.Cond.code (⟨"java/util/Objects", "requireNonNull", "(Ljava/lang/Object;)Ljava/lang/Object;"⟩ : MethodName) jdk_31_method_10_code 1 (some (.object "java/lang/Object")) :: wc) ({ frames := 0, cells := 0, slots := 0, locals := 0 } : Room) #[(.ref a)] h0 [] (fun vq hq => vq = some (.ref a)) := by
  refine own_enter #[.val (.ref a)] pn_java_util_Objects_requireNonNull__Ljava_lang_Object__Ljava_lang_Object_ (ef_rm9 a) hWd.1 O0 all0 ?_
  intro p e s m below meth c T0 X0 hnm hret
  refine og_aloadN X0 1 d9_0 rfl rfl rfl ?_
  refine og_nonnullY X0 12 d9_1 (by decide) (by decide) ?_
  refine og_aloadN X0 13 d9_12 rfl rfl rfl ?_
  refine own_retA X0 d9_13 hret rfl rfl (by decide) (by decide) ?_
  exact rfl
set_option maxRecDepth 65536 in
set_option maxHeartbeats 40000000 in
theorem rm10 (l : Launch) (Z : State) (a0 : Array Value) (hw : ∀ d ∈ tables_1, d.before a0 Z = true) (n0 : Nat) (h0 : Heap) (hWd : OWorld Z a0) (wc : List Jvm.Cond) (O0 : Old Z n0 h0) (a : Addr) (y : Value) (z : Int32) (d : Addr) (q0 : Exa Z h0 a "com/example/chitragupta/chitragupta/model/JobResult") (q1 : Fld Z h0 a "com/example/chitragupta/chitragupta/model/JobResult" "ticketId" "Ljava/lang/Long;" .null) (q2 : Fld Z h0 a "com/example/chitragupta/chitragupta/model/JobResult" "conflict" "Z" (.int (0 : Int32))) (q3 : Fld Z h0 a "com/example/chitragupta/chitragupta/model/JobResult" "details" "Ljava/lang/String;" .null) (q4 : (y).isRef = true) (q5 : z = 0 ∨ z = 1) (g0 : n0 ≤ a ∧ a < h0.size) :
    OMet l Z own_EL n0 (⟨"com/example/chitragupta/chitragupta/model/JobResult", "<init>", "(Ljava/lang/Long;ZLjava/lang/String;)V"⟩ : MethodName) (Jvm.Cond.code (⟨"com/example/chitragupta/chitragupta/model/JobResult", "<init>", "(Ljava/lang/Long;ZLjava/lang/String;)V"⟩ : MethodName) prog_27_method_1_code 4 none :: wc) ({ frames := 1, cells := 0, slots := 0, locals := 12 } : Room) #[(.ref a), y, (.int z), (.ref d)] h0 [a] (fun vq hq => vq = none ∧ Fld Z hq a "com/example/chitragupta/chitragupta/model/JobResult" "ticketId" "Ljava/lang/Long;" y ∧ Fld Z hq a "com/example/chitragupta/chitragupta/model/JobResult" "conflict" "Z" (.int z) ∧ Fld Z hq a "com/example/chitragupta/chitragupta/model/JobResult" "details" "Ljava/lang/String;" (.ref d)) := by
  refine own_enter #[.val (.ref a), .val y, .val (.int z), .val (.ref d)] pn_com_example_chitragupta_chitragupta_model_JobResult__init___Ljava_lang_Long_ZLjava_lang_String__V (ef_rm10 a y z d q4) hWd.1 O0 (allS g0 all0) ?_
  intro p e s m below meth c T0 X0 hnm hret
  refine og_aloadN X0 1 d10_0 rfl rfl rfl ?_
  refine own_obj0 X0 4 (a := a) d10_1 (hw _ (List.mem_of_getElem? (i := 52) rfl)) (hw _ (List.mem_of_getElem? (i := 24) rfl)) (hw _ (List.mem_of_getElem? (i := 25) rfl)) rfl (W := 0) rfl (by decide) (by decide) rfl ?_
  intro T1 X2
  refine og_aloadN X2 5 d10_4 rfl rfl rfl ?_
  refine og_aloadN X2 6 d10_5 rfl q4 rfl ?_
  refine own_put X2 9 d10_6 (host := "") (Or.inl (hw _ (List.mem_of_getElem? (i := 53) rfl))) Via.refl q1 q0 (Or.inr ⟨(hw _ (List.mem_of_getElem? (i := 54) rfl)), rfl, hnm⟩) (hw _ (List.mem_of_getElem? (i := 43) rfl)) (ty := (.object "java/lang/Long")) (by decide) (own_narR rfl q4) (own_fitR rfl q4) (List.mem_of_getElem? (i := 0) rfl) rfl ?_
  intro T3 h3 X3 W3 K3 F3
  have f4 := Fld.other W3 q2 (Or.inr (slot_ne (Or.inr (hw _ (List.mem_of_getElem? (i := 56) rfl))) (Or.inr (hw _ (List.mem_of_getElem? (i := 54) rfl))) (by decide) (t := .boolean) (t' := (.object "java/lang/Long")) (by decide) (by decide)))
  have f5 := Fld.other W3 q3 (Or.inr (slot_ne (Or.inr (hw _ (List.mem_of_getElem? (i := 58) rfl))) (Or.inr (hw _ (List.mem_of_getElem? (i := 54) rfl))) (by decide) (t := (.object "java/lang/String")) (t' := (.object "java/lang/Long")) (by decide) (by decide)))
  refine og_aloadN X3 10 d10_9 rfl rfl rfl ?_
  refine og_iloadN X3 11 d10_10 rfl rfl ?_
  have f6 := q0.keep K3
  refine own_put X3 14 d10_11 (host := "") (Or.inl (hw _ (List.mem_of_getElem? (i := 55) rfl))) Via.refl f4 f6 (Or.inr ⟨(hw _ (List.mem_of_getElem? (i := 56) rfl)), rfl, hnm⟩) (hw _ (List.mem_of_getElem? (i := 43) rfl)) (ty := .boolean) (by decide) (own_zb q5).1 (own_zb q5).2 (List.mem_of_getElem? (i := 0) rfl) rfl ?_
  intro T7 h7 X7 W7 K7 F7
  have f8 := Fld.other W7 F3 (Or.inr (slot_ne (Or.inr (hw _ (List.mem_of_getElem? (i := 54) rfl))) (Or.inr (hw _ (List.mem_of_getElem? (i := 56) rfl))) (by decide) (t := (.object "java/lang/Long")) (t' := .boolean) (by decide) (by decide)))
  have f9 := Fld.other W7 f5 (Or.inr (slot_ne (Or.inr (hw _ (List.mem_of_getElem? (i := 58) rfl))) (Or.inr (hw _ (List.mem_of_getElem? (i := 56) rfl))) (by decide) (t := (.object "java/lang/String")) (t' := .boolean) (by decide) (by decide)))
  refine og_aloadN X7 15 d10_14 rfl rfl rfl ?_
  refine og_aloadN X7 16 d10_15 rfl rfl rfl ?_
  have f10 := f6.keep K7
  refine own_put X7 19 d10_16 (host := "") (Or.inl (hw _ (List.mem_of_getElem? (i := 57) rfl))) Via.refl f9 f10 (Or.inr ⟨(hw _ (List.mem_of_getElem? (i := 58) rfl)), rfl, hnm⟩) (hw _ (List.mem_of_getElem? (i := 43) rfl)) (ty := (.object "java/lang/String")) (by decide) rfl rfl (List.mem_of_getElem? (i := 0) rfl) rfl ?_
  intro T11 h11 X11 W11 K11 F11
  have f12 := Fld.other W11 f8 (Or.inr (slot_ne (Or.inr (hw _ (List.mem_of_getElem? (i := 54) rfl))) (Or.inr (hw _ (List.mem_of_getElem? (i := 58) rfl))) (by decide) (t := (.object "java/lang/Long")) (t' := (.object "java/lang/String")) (by decide) (by decide)))
  have f13 := Fld.other W11 F7 (Or.inr (slot_ne (Or.inr (hw _ (List.mem_of_getElem? (i := 56) rfl))) (Or.inr (hw _ (List.mem_of_getElem? (i := 58) rfl))) (by decide) (t := .boolean) (t' := (.object "java/lang/String")) (by decide) (by decide)))
  refine own_retV X11 d10_19 hret (by decide) (by decide) ?_
  exact ⟨rfl, f12, f13, F11⟩
set_option maxRecDepth 65536 in
set_option maxHeartbeats 40000000 in
theorem rm8 (l : Launch) (Z : State) (a0 : Array Value) (hw : ∀ d ∈ tables_1, d.before a0 Z = true) (n0 : Nat) (h0 : Heap) (hWd : OWorld Z a0) (wc : List Jvm.Cond) (O0 : Old Z n0 h0) (y : Value) (d : Addr) (q0 : (y).isRef = true) (q1 : Exa Z h0 d "java/lang/String") :
    OMet l Z own_EL n0 (⟨"com/example/chitragupta/chitragupta/model/JobResult", "failed", "(Ljava/lang/Long;Ljava/lang/String;)Lcom/example/chitragupta/chitragupta/model/JobResult;"⟩ : MethodName) (Jvm.Cond.code (⟨"com/example/chitragupta/chitragupta/model/JobResult", "failed", "(Ljava/lang/Long;Ljava/lang/String;)Lcom/example/chitragupta/chitragupta/model/JobResult;"⟩ : MethodName) prog_27_method_3_code 2 (some (.object "com/example/chitragupta/chitragupta/model/JobResult")) :: wc) ({ frames := 2, cells := 1, slots := 3, locals := 28 } : Room) #[y, (.ref d)] h0 [] (fun vq hq => ∃ (r : Addr), vq = some (.ref r) ∧ h0.size ≤ r ∧ Exa Z hq r "com/example/chitragupta/chitragupta/model/JobResult" ∧ Fld Z hq r "com/example/chitragupta/chitragupta/model/JobResult" "ticketId" "Ljava/lang/Long;" y ∧ Fld Z hq r "com/example/chitragupta/chitragupta/model/JobResult" "conflict" "Z" (.int (0 : Int32)) ∧ Fld Z hq r "com/example/chitragupta/chitragupta/model/JobResult" "details" "Ljava/lang/String;" (.ref d)) := by
  refine own_enter #[.val y, .val (.ref d)] pn_com_example_chitragupta_chitragupta_model_JobResult_failed__Ljava_lang_Long_Ljava_lang_String__Lcom_example_chitragupta_chitragupta_model_JobResult_ (ef_rm8 y d q0) hWd.1 O0 all0 ?_
  intro p e s m below meth c T0 X0 hnm hret
  refine own_new X0 3 d8_0 (hw _ (List.mem_of_getElem? (i := 42) rfl)) (hw _ (List.mem_of_getElem? (i := 43) rfl)) (hw _ (List.mem_of_getElem? (i := 40) rfl)) (by decide) (by decide) rfl ?_
  intro T1 h1 b1 X1 K1 G1 U1 E1 D1
  have f2 : Fld Z h1 b1 "com/example/chitragupta/chitragupta/model/JobResult" "ticketId" "Ljava/lang/Long;" .null := D1 (Or.inr (hw _ (List.mem_of_getElem? (i := 54) rfl))) (ty := (.object "java/lang/Long")) (by decide)
  have f3 : Fld Z h1 b1 "com/example/chitragupta/chitragupta/model/JobResult" "conflict" "Z" (.int (0 : Int32)) := D1 (Or.inr (hw _ (List.mem_of_getElem? (i := 56) rfl))) (ty := .boolean) (by decide)
  have f4 : Fld Z h1 b1 "com/example/chitragupta/chitragupta/model/JobResult" "details" "Ljava/lang/String;" .null := D1 (Or.inr (hw _ (List.mem_of_getElem? (i := 58) rfl))) (ty := (.object "java/lang/String")) (by decide)
  refine og_dup X1 4 d8_3 rfl rfl ?_
  refine og_aloadN X1 5 d8_4 rfl q0 rfl ?_
  refine og_iconst X1 6 (0 : Int32) d8_5 rfl rfl ?_
  refine og_aloadN X1 7 d8_6 rfl rfl rfl ?_
  refine own_stat X1 10 (argsL := [(.ref d)]) (rest := [(.int (0 : Int32)), y, (.ref b1), (.ref b1)]) d8_7 (rm9 l Z a0 hw n0 h1 hWd [] X1.old d  ) (hw _ (List.mem_of_getElem? (i := 44) rfl)) (hw _ (List.mem_of_getElem? (i := 45) rfl)) (hw _ (List.mem_of_getElem? (i := 46) rfl)) (hw _ (List.mem_of_getElem? (i := 47) rfl)) (by decide) (lenOf pd__28Ljava_2flang_2fObject_3b_29Ljava_2flang_2fObject_3b rfl) rfl rfl rfl (W := 4) (by show 1 + (y.category + (1 + (1 + 0))) = 4; rw [XT.cat1 q0]) (by decide) (by decide) (by decide) (by decide) all0 rfl ?_
  intro T5 h5 v5 X5 K5 hQ5
  obtain rfl := hQ5
  show OGo _ _ _ _ T5 (mkF m 10 #[.val y, .val (.ref d)] [(.ref d), (.int (0 : Int32)), y, (.ref b1), (.ref b1)])
  have f6 := q1.keep K1
  have f7 := f6.keep K5
  refine own_cast X5 13 d8_10 (hw _ (List.mem_of_getElem? (i := 48) rfl)) (Ins.self f7) rfl ?_
  intro T8 X9
  have f10 := E1.keep K5
  have f11 := f2.keep K5 nin0
  have f12 := f3.keep K5 nin0
  have f13 := f4.keep K5 nin0
  refine own_spec X9 16 (a := b1) (argsL := [y, (.int (0 : Int32)), (.ref d)]) (rest := [(.ref b1)]) d8_13 rfl (rm10 l Z a0 hw n0 h5 hWd [] X9.old b1 y (0 : Int32) d f10 f11 f12 f13 q0 (by decide) (own_svb X9 (List.mem_of_getElem? (i := 0) rfl))) (hw _ (List.mem_of_getElem? (i := 49) rfl)) (hw _ (List.mem_of_getElem? (i := 50) rfl)) (hw _ (List.mem_of_getElem? (i := 40) rfl)) (hw _ (List.mem_of_getElem? (i := 51) rfl)) (by decide) (lenOf pd__28Ljava_2flang_2fLong_3bZLjava_2flang_2fString_3b_29V rfl) rfl rfl rfl (W := 1) rfl (by decide) (by decide) (by decide) (by decide) (allS (List.mem_of_getElem? (i := 0) rfl) all0) rfl ?_
  intro T14 h14 v14 X14 K14 hQ14
  obtain ⟨rfl, f15, f16, f17⟩ := hQ14
  show OGo _ _ _ _ T14 (mkF m 16 #[.val y, .val (.ref d)] [(.ref b1)])
  have f18 := f10.keep K14
  refine own_retA X14 d8_16 hret rfl rfl (by decide) (by decide) ?_
  exact ⟨b1, rfl, G1, f18, f15, f16, f17⟩
set_option maxRecDepth 65536 in
set_option maxHeartbeats 40000000 in
theorem rm12 (l : Launch) (Z : State) (a0 : Array Value) (hw : ∀ d ∈ tables_1, d.before a0 Z = true) (n0 : Nat) (h0 : Heap) (hWd : OWorld Z a0) (wc : List Jvm.Cond) (O0 : Old Z n0 h0) (a : Addr) (q0 : Fld Z h0 a "com/example/chitragupta/chitragupta/model/JobResult" "conflict" "Z" (.int (0 : Int32))) :
    OMet l Z own_EL n0 (⟨"com/example/chitragupta/chitragupta/model/JobResult", "isConflict", "()Z"⟩ : MethodName) (Jvm.Cond.code (⟨"com/example/chitragupta/chitragupta/model/JobResult", "isConflict", "()Z"⟩ : MethodName) prog_27_method_6_code 1 (some .boolean) :: wc) ({ frames := 0, cells := 0, slots := 0, locals := 0 } : Room) #[(.ref a)] h0 [] (fun vq hq => vq = some (.int (0 : Int32))) := by
  refine own_enter #[.val (.ref a)] pn_com_example_chitragupta_chitragupta_model_JobResult_isConflict___Z (ef_rm12 a) hWd.1 O0 all0 ?_
  intro p e s m below meth c T0 X0 hnm hret
  refine og_aloadN X0 1 d12_0 rfl rfl rfl ?_
  refine own_get X0 4 d12_1 (host := "") (Or.inl (hw _ (List.mem_of_getElem? (i := 55) rfl))) Via.refl q0 rfl ?_
  intro T1 X2
  refine own_retZ X2 d12_4 hret rfl (by decide) (by decide) ?_
  exact rfl
set_option maxRecDepth 65536 in
set_option maxHeartbeats 40000000 in
theorem rm11 (l : Launch) (Z : State) (a0 : Array Value) (hw : ∀ d ∈ tables_1, d.before a0 Z = true) (n0 : Nat) (h0 : Heap) (hWd : OWorld Z a0) (wc : List Jvm.Cond) (O0 : Old Z n0 h0) (a : Addr) (d : Addr) (q0 : Fld Z h0 a "com/example/chitragupta/chitragupta/model/JobResult" "details" "Ljava/lang/String;" (.ref d)) :
    OMet l Z own_EL n0 (⟨"com/example/chitragupta/chitragupta/model/JobResult", "hasSucceeded", "()Z"⟩ : MethodName) (Jvm.Cond.code (⟨"com/example/chitragupta/chitragupta/model/JobResult", "hasSucceeded", "()Z"⟩ : MethodName) prog_27_method_5_code 1 (some .boolean) :: wc) ({ frames := 0, cells := 0, slots := 0, locals := 0 } : Room) #[(.ref a)] h0 [] (fun vq hq => vq = some (.int (0 : Int32))) := by
  refine own_enter #[.val (.ref a)] pn_com_example_chitragupta_chitragupta_model_JobResult_hasSucceeded___Z (ef_rm11 a d) hWd.1 O0 all0 ?_
  intro p e s m below meth c T0 X0 hnm hret
  refine og_aloadN X0 1 d11_0 rfl rfl rfl ?_
  refine own_get X0 4 d11_1 (host := "") (Or.inl (hw _ (List.mem_of_getElem? (i := 57) rfl))) Via.refl q0 rfl ?_
  intro T1 X2
  refine og_nonnullY X2 11 d11_4 (by decide) (by decide) ?_
  refine og_iconst X2 12 (0 : Int32) d11_11 rfl rfl ?_
  refine own_retZ X2 d11_12 hret rfl (by decide) (by decide) ?_
  exact rfl
set_option maxRecDepth 65536 in
set_option maxHeartbeats 40000000 in
theorem rm13 (l : Launch) (Z : State) (a0 : Array Value) (hw : ∀ d ∈ tables_1, d.before a0 Z = true) (n0 : Nat) (h0 : Heap) (hWd : OWorld Z a0) (wc : List Jvm.Cond) (O0 : Old Z n0 h0) (a : Addr) (y : Value) (q0 : Fld Z h0 a "com/example/chitragupta/chitragupta/model/JobResult" "ticketId" "Ljava/lang/Long;" y) (q1 : (y).isRef = true) :
    OMet l Z own_EL n0 (⟨"com/example/chitragupta/chitragupta/model/JobResult", "getTicketId", "()Ljava/lang/Long;"⟩ : MethodName) (Jvm.Cond.code (⟨"com/example/chitragupta/chitragupta/model/JobResult", "getTicketId", "()Ljava/lang/Long;"⟩ : MethodName) prog_27_method_7_code 1 (some (.object "java/lang/Long")) :: wc) ({ frames := 0, cells := 0, slots := 0, locals := 0 } : Room) #[(.ref a)] h0 [] (fun vq hq => vq = some y) := by
  refine own_enter #[.val (.ref a)] pn_com_example_chitragupta_chitragupta_model_JobResult_getTicketId___Ljava_lang_Long_ (ef_rm13 a y) hWd.1 O0 all0 ?_
  intro p e s m below meth c T0 X0 hnm hret
  refine og_aloadN X0 1 d13_0 rfl rfl rfl ?_
  refine own_get X0 4 d13_1 (host := "") (Or.inl (hw _ (List.mem_of_getElem? (i := 53) rfl))) Via.refl q0 rfl ?_
  intro T1 X2
  refine own_retA X2 d13_4 hret rfl q1 (by decide) (by decide) ?_
  exact rfl
set_option maxRecDepth 65536 in
set_option maxHeartbeats 40000000 in
theorem rm15 (l : Launch) (Z : State) (a0 : Array Value) (hw : ∀ d ∈ tables_1, d.before a0 Z = true) (n0 : Nat) (h0 : Heap) (hWd : OWorld Z a0) (wc : List Jvm.Cond) (O0 : Old Z n0 h0) (a : Addr) (d : Addr) (q0 : Fld Z h0 a "com/example/chitragupta/chitragupta/model/JobResult" "details" "Ljava/lang/String;" (.ref d)) :
    OMet l Z own_EL n0 (⟨"com/example/chitragupta/chitragupta/model/JobResult", "getDetails", "()Ljava/lang/String;"⟩ : MethodName) (Jvm.Cond.code (⟨"com/example/chitragupta/chitragupta/model/JobResult", "getDetails", "()Ljava/lang/String;"⟩ : MethodName) prog_27_method_8_code 1 (some (.object "java/lang/String")) :: wc) ({ frames := 0, cells := 0, slots := 0, locals := 0 } : Room) #[(.ref a)] h0 [] (fun vq hq => vq = some (.ref d)) := by
  refine own_enter #[.val (.ref a)] pn_com_example_chitragupta_chitragupta_model_JobResult_getDetails___Ljava_lang_String_ (ef_rm15 a d) hWd.1 O0 all0 ?_
  intro p e s m below meth c T0 X0 hnm hret
  refine og_aloadN X0 1 d15_0 rfl rfl rfl ?_
  refine own_get X0 4 d15_1 (host := "") (Or.inl (hw _ (List.mem_of_getElem? (i := 57) rfl))) Via.refl q0 rfl ?_
  intro T1 X2
  refine own_retA X2 d15_4 hret rfl rfl (by decide) (by decide) ?_
  exact rfl
set_option maxRecDepth 65536 in
set_option maxHeartbeats 40000000 in
theorem rm0 (l : Launch) (Z : State) (a0 : Array Value) (hw : ∀ d ∈ tables_1, d.before a0 Z = true) (n0 : Nat) (h0 : Heap) (hWd : OWorld Z a0) (wc : List Jvm.Cond) (O0 : Old Z n0 h0) (px : Int64) (pf : Int32) (p0 : Int32) (p1 : Int32) (p2 : Int32)  :
    OMet l Z own_EL n0 x (Jvm.Cond.code x code maxLocals ret :: wc) room_1 #[(.long px), (.int pf), (.int p0), (.int p1), (.int p2)] h0 [] (fun vq hq => vq = some (.int (1 : Int32))) := by
  refine own_enter #[.val (.long px), .second, .val (.int pf), .val (.int p0), .val (.int p1), .val (.int p2), .unset, .unset, .unset, .unset, .unset, .unset, .unset, .unset] pn_com_example_chitragupta_chitragupta_model_JobResultFailedPinLaw_law__JIIII_Z (ef_rm0 px pf p0 p1 p2) hWd.1 O0 all0 ?_
  intro p e s m below meth c T0 X0 hnm hret
  refine og_iloadN X0 1 at_0 rfl rfl ?_
  refine og_iconst X0 2 (1 : Int32) at_1 rfl rfl ?_
  refine og_iand X0 3 at_2 rfl ?_
  by_cases hc1 : (pf &&& (1 : Int32)) = 0
  · -- (pf &&& (1 : Int32)) = 0
    refine og_ifY X0 10 at_3 (XT.i0_eq_t hc1) (by decide) (by decide) ?_
    refine og_iconst X0 11 (0 : Int32) at_10 rfl rfl ?_
    refine og_istore X0 13 #[.val (.long px), .second, .val (.int pf), .val (.int p0), .val (.int p1), .val (.int p2), .val (.int (0 : Int32)), .unset, .unset, .unset, .unset, .unset, .unset, .unset] at_11 rfl rfl ?_
    refine og_iloadN X0 14 at_13 rfl rfl ?_
    refine og_iconst X0 15 (1 : Int32) at_14 rfl rfl ?_
    refine og_iushr X0 16 at_15 rfl ?_
    refine og_iconst X0 17 (3 : Int32) at_16 rfl rfl ?_
    refine og_iand X0 18 at_17 rfl ?_
    refine og_istore X0 20 #[.val (.long px), .second, .val (.int pf), .val (.int p0), .val (.int p1), .val (.int p2), .val (.int (0 : Int32)), .val (.int ((XT.ushr pf (1 : Int32)) &&& (3 : Int32))), .unset, .unset, .unset, .unset, .unset, .unset] at_18 rfl rfl ?_
    refine og_iload X0 22 at_20 rfl rfl ?_
    refine og_iloadN X0 23 at_22 rfl rfl ?_
    refine og_iload X0 25 at_23 rfl rfl ?_
    refine og_iload X0 27 at_25 rfl rfl ?_
    refine own_stat X0 30 (argsL := [(.int ((XT.ushr pf (1 : Int32)) &&& (3 : Int32))), (.int p0), (.int p1), (.int p2)]) (rest := []) at_27 (rm1 l Z a0 hw n0 h0 hWd [] X0.old ((XT.ushr pf (1 : Int32)) &&& (3 : Int32)) p0 p1 p2  ) (hw _ (List.mem_of_getElem? (i := 0) rfl)) (hw _ (List.mem_of_getElem? (i := 1) rfl)) (hw _ (List.mem_of_getElem? (i := 2) rfl)) (hw _ (List.mem_of_getElem? (i := 3) rfl)) (by decide) (lenOf pd__28IIII_29Ljava_2flang_2fString_3b rfl) rfl rfl rfl (W := 0) rfl (by decide) (by decide) (by decide) (by decide) all0 rfl ?_
    intro T2 h2 v2 X2 K2 hQ2
    obtain ⟨r2, rfl, f3⟩ := hQ2
    show OGo _ _ _ _ T2 (mkF m 30 #[.val (.long px), .second, .val (.int pf), .val (.int p0), .val (.int p1), .val (.int p2), .val (.int (0 : Int32)), .val (.int ((XT.ushr pf (1 : Int32)) &&& (3 : Int32))), .unset, .unset, .unset, .unset, .unset, .unset] [(.ref r2)])
    refine og_astore X2 32 #[.val (.long px), .second, .val (.int pf), .val (.int p0), .val (.int p1), .val (.int p2), .val (.int (0 : Int32)), .val (.int ((XT.ushr pf (1 : Int32)) &&& (3 : Int32))), .val (.ref r2), .unset, .unset, .unset, .unset, .unset] at_30 rfl rfl rfl ?_
    refine og_iload X2 34 at_32 rfl rfl ?_
    refine og_ifY X2 41 at_34 (XT.i0_eq_t (by decide)) (by decide) (by decide) ?_
    refine og_lloadN X2 42 at_41 rfl rfl ?_
    refine own_stat X2 45 (argsL := [(.long px)]) (rest := []) at_42 (rm_valL l Z a0 hw n0 h2 hWd [] X2.old px  ) (hw _ (List.mem_of_getElem? (i := 30) rfl)) (hw _ (List.mem_of_getElem? (i := 31) rfl)) (hw _ (List.mem_of_getElem? (i := 32) rfl)) (hw _ (List.mem_of_getElem? (i := 33) rfl)) (by decide) (lenOf pd__28J_29Ljava_2flang_2fLong_3b rfl) rfl rfl rfl (W := 0) rfl (by decide) (by decide) (by decide) (by decide) all0 rfl ?_
    intro T4 h4 v4 X4 K4 hQ4
    obtain ⟨r4, rfl, f5, f6⟩ := hQ4
    show OGo _ _ _ _ T4 (mkF m 45 #[.val (.long px), .second, .val (.int pf), .val (.int p0), .val (.int p1), .val (.int p2), .val (.int (0 : Int32)), .val (.int ((XT.ushr pf (1 : Int32)) &&& (3 : Int32))), .val (.ref r2), .unset, .unset, .unset, .unset, .unset] [(.ref r4)])
    refine og_astore X4 47 #[.val (.long px), .second, .val (.int pf), .val (.int p0), .val (.int p1), .val (.int p2), .val (.int (0 : Int32)), .val (.int ((XT.ushr pf (1 : Int32)) &&& (3 : Int32))), .val (.ref r2), .val (.ref r4), .unset, .unset, .unset, .unset] at_45 rfl rfl rfl ?_
    refine og_aload X4 49 at_47 rfl rfl rfl ?_
    refine og_aload X4 51 at_49 rfl rfl rfl ?_
    have f7 := f3.exa.keep K4
    refine own_stat X4 54 (argsL := [(.ref r4), (.ref r2)]) (rest := []) at_51 (rm8 l Z a0 hw n0 h4 hWd [] X4.old (.ref r4) r2 rfl f7 ) (hw _ (List.mem_of_getElem? (i := 38) rfl)) (hw _ (List.mem_of_getElem? (i := 39) rfl)) (hw _ (List.mem_of_getElem? (i := 40) rfl)) (hw _ (List.mem_of_getElem? (i := 41) rfl)) (by decide) (lenOf pd__28Ljava_2flang_2fLong_3bLjava_2flang_2fString_3b_29Lcom_2fexample_2fchitragupta_2fchitragupta_2fmodel_2fJobResult_3b rfl) rfl rfl rfl (W := 0) rfl (by decide) (by decide) (by decide) (by decide) all0 rfl ?_
    intro T8 h8 v8 X8 K8 hQ8
    obtain ⟨r8, rfl, ge_r8, f9, f10, f11, f12⟩ := hQ8
    show OGo _ _ _ _ T8 (mkF m 54 #[.val (.long px), .second, .val (.int pf), .val (.int p0), .val (.int p1), .val (.int p2), .val (.int (0 : Int32)), .val (.int ((XT.ushr pf (1 : Int32)) &&& (3 : Int32))), .val (.ref r2), .val (.ref r4), .unset, .unset, .unset, .unset] [(.ref r8)])
    refine og_astore X8 56 #[.val (.long px), .second, .val (.int pf), .val (.int p0), .val (.int p1), .val (.int p2), .val (.int (0 : Int32)), .val (.int ((XT.ushr pf (1 : Int32)) &&& (3 : Int32))), .val (.ref r2), .val (.ref r4), .val (.ref r8), .unset, .unset, .unset] at_54 rfl rfl rfl ?_
    refine og_aload X8 58 at_56 rfl rfl rfl ?_
    refine own_virt X8 61 (a := r8) (argsL := []) (rest := []) at_58 f9 (fun _ hZ => notFace_of_selects (args := #[]) (mvT hZ (hw _ (List.mem_of_getElem? (i := 62) rfl)))) (rm11 l Z a0 hw n0 h8 hWd [] X8.old r8 r2 f12 ) (hw _ (List.mem_of_getElem? (i := 59) rfl)) (hw _ (List.mem_of_getElem? (i := 60) rfl)) (hw _ (List.mem_of_getElem? (i := 62) rfl)) (hw _ (List.mem_of_getElem? (i := 61) rfl)) (hw _ (List.mem_of_getElem? (i := 40) rfl)) (hw _ (List.mem_of_getElem? (i := 63) rfl)) (by decide) (lenOf pd__28_29Z rfl) rfl rfl rfl (W := 0) rfl (by decide) (by decide) (by decide) (by decide) all0 rfl ?_
    intro T13 h13 v13 X13 K13 hQ13
    obtain rfl := hQ13
    show OGo _ _ _ _ T13 (mkF m 61 #[.val (.long px), .second, .val (.int pf), .val (.int p0), .val (.int p1), .val (.int p2), .val (.int (0 : Int32)), .val (.int ((XT.ushr pf (1 : Int32)) &&& (3 : Int32))), .val (.ref r2), .val (.ref r4), .val (.ref r8), .unset, .unset, .unset] [(.int (0 : Int32))])
    refine og_ifY X13 66 at_61 (XT.i0_eq_t (by decide)) (by decide) (by decide) ?_
    refine og_aload X13 68 at_66 rfl rfl rfl ?_
    have f14 := f9.keep K13
    have f15 := f11.keep K13 nin0
    refine own_virt X13 71 (a := r8) (argsL := []) (rest := []) at_68 f14 (fun _ hZ => notFace_of_selects (args := #[]) (mvT hZ (hw _ (List.mem_of_getElem? (i := 67) rfl)))) (rm12 l Z a0 hw n0 h13 hWd [] X13.old r8 f15 ) (hw _ (List.mem_of_getElem? (i := 64) rfl)) (hw _ (List.mem_of_getElem? (i := 65) rfl)) (hw _ (List.mem_of_getElem? (i := 67) rfl)) (hw _ (List.mem_of_getElem? (i := 66) rfl)) (hw _ (List.mem_of_getElem? (i := 40) rfl)) (hw _ (List.mem_of_getElem? (i := 68) rfl)) (by decide) (lenOf pd__28_29Z rfl) rfl rfl rfl (W := 0) rfl (by decide) (by decide) (by decide) (by decide) all0 rfl ?_
    intro T16 h16 v16 X16 K16 hQ16
    obtain rfl := hQ16
    show OGo _ _ _ _ T16 (mkF m 71 #[.val (.long px), .second, .val (.int pf), .val (.int p0), .val (.int p1), .val (.int p2), .val (.int (0 : Int32)), .val (.int ((XT.ushr pf (1 : Int32)) &&& (3 : Int32))), .val (.ref r2), .val (.ref r4), .val (.ref r8), .unset, .unset, .unset] [(.int (0 : Int32))])
    refine og_ifY X16 76 at_71 (XT.i0_eq_t (by decide)) (by decide) (by decide) ?_
    refine og_aload X16 78 at_76 rfl rfl rfl ?_
    have f17 := f14.keep K16
    have f18 := f10.keep K13 nin0
    have f19 := f18.keep K16 nin0
    refine own_virt X16 81 (a := r8) (argsL := []) (rest := []) at_78 f17 (fun _ hZ => notFace_of_selects (args := #[]) (mvT hZ (hw _ (List.mem_of_getElem? (i := 72) rfl)))) (rm13 l Z a0 hw n0 h16 hWd [] X16.old r8 (.ref r4) f19 rfl ) (hw _ (List.mem_of_getElem? (i := 69) rfl)) (hw _ (List.mem_of_getElem? (i := 70) rfl)) (hw _ (List.mem_of_getElem? (i := 72) rfl)) (hw _ (List.mem_of_getElem? (i := 71) rfl)) (hw _ (List.mem_of_getElem? (i := 40) rfl)) (hw _ (List.mem_of_getElem? (i := 73) rfl)) (by decide) (lenOf pd__28_29Ljava_2flang_2fLong_3b rfl) rfl rfl rfl (W := 0) rfl (by decide) (by decide) (by decide) (by decide) all0 rfl ?_
    intro T20 h20 v20 X20 K20 hQ20
    obtain rfl := hQ20
    show OGo _ _ _ _ T20 (mkF m 81 #[.val (.long px), .second, .val (.int pf), .val (.int p0), .val (.int p1), .val (.int p2), .val (.int (0 : Int32)), .val (.int ((XT.ushr pf (1 : Int32)) &&& (3 : Int32))), .val (.ref r2), .val (.ref r4), .val (.ref r8), .unset, .unset, .unset] [(.ref r4)])
    refine og_astore X20 83 #[.val (.long px), .second, .val (.int pf), .val (.int p0), .val (.int p1), .val (.int p2), .val (.int (0 : Int32)), .val (.int ((XT.ushr pf (1 : Int32)) &&& (3 : Int32))), .val (.ref r2), .val (.ref r4), .val (.ref r8), .val (.ref r4), .unset, .unset] at_81 rfl rfl rfl ?_
    refine og_iload X20 85 at_83 rfl rfl ?_
    refine og_ifY X20 103 at_85 (XT.i0_eq_t (by decide)) (by decide) (by decide) ?_
    refine og_aload X20 105 at_103 rfl rfl rfl ?_
    refine og_nullN X20 108 at_105 rfl ?_
    refine og_aload X20 110 at_108 rfl rfl rfl ?_
    have f21 := f5.keep K8
    have f22 := f21.keep K13
    have f23 := f22.keep K16
    have f24 := f23.keep K20
    have f25 := f6.keep K8 nin0
    have f26 := f25.keep K13 nin0
    have f27 := f26.keep K16 nin0
    have f28 := f27.keep K20 nin0
    refine own_virt X20 113 (a := r4) (argsL := []) (rest := []) at_110 f24 (fun _ hZ => notFace_of_selects (args := #[]) (mvT hZ (hw _ (List.mem_of_getElem? (i := 77) rfl)))) (rm_lval l Z a0 hw n0 h20 hWd [] X20.old r4 px f28 ) (hw _ (List.mem_of_getElem? (i := 74) rfl)) (hw _ (List.mem_of_getElem? (i := 75) rfl)) (hw _ (List.mem_of_getElem? (i := 77) rfl)) (hw _ (List.mem_of_getElem? (i := 76) rfl)) (hw _ (List.mem_of_getElem? (i := 32) rfl)) (hw _ (List.mem_of_getElem? (i := 78) rfl)) (by decide) (lenOf pd__28_29J rfl) rfl rfl rfl (W := 0) rfl (by decide) (by decide) (by decide) (by decide) all0 rfl ?_
    intro T29 h29 v29 X29 K29 hQ29
    obtain rfl := hQ29
    show OGo _ _ _ _ T29 (mkF m 113 #[.val (.long px), .second, .val (.int pf), .val (.int p0), .val (.int p1), .val (.int p2), .val (.int (0 : Int32)), .val (.int ((XT.ushr pf (1 : Int32)) &&& (3 : Int32))), .val (.ref r2), .val (.ref r4), .val (.ref r8), .val (.ref r4), .unset, .unset] [(.long px)])
    refine og_lloadN X29 114 at_113 rfl rfl ?_
    refine og_lcmp X29 115 at_114 rfl ?_
    refine og_ifN X29 118 at_115 (XT.ll_ne_f rfl) rfl ?_
    refine og_iconst X29 119 (1 : Int32) at_118 rfl rfl ?_
    refine og_goto X29 123 at_119 (by decide) (by decide) ?_
    refine og_istore X29 125 #[.val (.long px), .second, .val (.int pf), .val (.int p0), .val (.int p1), .val (.int p2), .val (.int (0 : Int32)), .val (.int ((XT.ushr pf (1 : Int32)) &&& (3 : Int32))), .val (.ref r2), .val (.ref r4), .val (.ref r8), .val (.ref r4), .val (.int (1 : Int32)), .unset] at_123 rfl rfl ?_
    refine og_iload X29 127 at_125 rfl rfl ?_
    refine og_ifY X29 132 at_127 (XT.i0_ne_t (by decide)) (by decide) (by decide) ?_
    refine og_aload X29 134 at_132 rfl rfl rfl ?_
    have f30 := f17.keep K20
    have f31 := f30.keep K29
    have f32 := f12.keep K13 nin0
    have f33 := f32.keep K16 nin0
    have f34 := f33.keep K20 nin0
    have f35 := f34.keep K29 nin0
    refine own_virt X29 137 (a := r8) (argsL := []) (rest := []) at_134 f31 (fun _ hZ => notFace_of_selects (args := #[]) (mvT hZ (hw _ (List.mem_of_getElem? (i := 84) rfl)))) (rm15 l Z a0 hw n0 h29 hWd [] X29.old r8 r2 f35 ) (hw _ (List.mem_of_getElem? (i := 81) rfl)) (hw _ (List.mem_of_getElem? (i := 82) rfl)) (hw _ (List.mem_of_getElem? (i := 84) rfl)) (hw _ (List.mem_of_getElem? (i := 83) rfl)) (hw _ (List.mem_of_getElem? (i := 40) rfl)) (hw _ (List.mem_of_getElem? (i := 85) rfl)) (by decide) (lenOf pd__28_29Ljava_2flang_2fString_3b rfl) rfl rfl rfl (W := 0) rfl (by decide) (by decide) (by decide) (by decide) all0 rfl ?_
    intro T36 h36 v36 X36 K36 hQ36
    obtain rfl := hQ36
    show OGo _ _ _ _ T36 (mkF m 137 #[.val (.long px), .second, .val (.int pf), .val (.int p0), .val (.int p1), .val (.int p2), .val (.int (0 : Int32)), .val (.int ((XT.ushr pf (1 : Int32)) &&& (3 : Int32))), .val (.ref r2), .val (.ref r4), .val (.ref r8), .val (.ref r4), .val (.int (1 : Int32)), .unset] [(.ref r2)])
    refine og_astore X36 139 #[.val (.long px), .second, .val (.int pf), .val (.int p0), .val (.int p1), .val (.int p2), .val (.int (0 : Int32)), .val (.int ((XT.ushr pf (1 : Int32)) &&& (3 : Int32))), .val (.ref r2), .val (.ref r4), .val (.ref r8), .val (.ref r4), .val (.int (1 : Int32)), .val (.ref r2)] at_137 rfl rfl rfl ?_
    refine og_aload X36 141 at_139 rfl rfl rfl ?_
    refine og_nonnullY X36 146 at_141 (by decide) (by decide) ?_
    refine og_aload X36 148 at_146 rfl rfl rfl ?_
    have f37 := f3.keep K4 all0
    have f38 := f37.keep K8 all0
    have f39 := f38.keep K13 all0
    have f40 := f39.keep K16 all0
    have f41 := f40.keep K20 all0
    have f42 := f41.keep K29 all0
    have f43 := f42.keep K36 all0
    refine own_strLen X36 151 at_148 f43 (own_wL hw) (hw _ (List.mem_of_getElem? (i := 14) rfl)) hWd.2.1.1 hWd.2.1.2 (hw _ (List.mem_of_getElem? (i := 86) rfl)) (hw _ (List.mem_of_getElem? (i := 87) rfl)) (hw _ (List.mem_of_getElem? (i := 89) rfl)) (hw _ (List.mem_of_getElem? (i := 88) rfl)) rfl (W := 0) rfl (by decide) (by decide) (by decide) (by decide) rfl ?_
    intro T44 X45
    refine og_iload X45 153 at_151 rfl rfl ?_
    refine og_icmpY X45 158 at_153 (XT.ii_eq_t (own_txt_len (own_and3 _))) (by decide) (by decide) ?_
    refine og_aload X45 160 at_158 rfl rfl rfl ?_
    refine og_aload X45 162 at_160 rfl rfl rfl ?_
    have f46 := f7.keep K8
    have f47 := f46.keep K13
    have f48 := f47.keep K16
    have f49 := f48.keep K20
    have f50 := f49.keep K29
    have f51 := f50.keep K36
    refine own_virt X45 165 (a := r2) (argsL := [(.ref r2)]) (rest := []) at_162 f51 (fun _ hZ => notFace_of_selects (args := #[]) (mvT hZ (hw _ (List.mem_of_getElem? (i := 99) rfl)))) (rm18 l Z a0 hw n0 h36 hWd [] X45.old r2  ) (hw _ (List.mem_of_getElem? (i := 96) rfl)) (hw _ (List.mem_of_getElem? (i := 97) rfl)) (hw _ (List.mem_of_getElem? (i := 99) rfl)) (hw _ (List.mem_of_getElem? (i := 98) rfl)) (hw _ (List.mem_of_getElem? (i := 6) rfl)) (hw _ (List.mem_of_getElem? (i := 100) rfl)) (by decide) (lenOf pd__28Ljava_2flang_2fObject_3b_29Z rfl) rfl rfl rfl (W := 0) rfl (by decide) (by decide) (by decide) (by decide) all0 rfl ?_
    intro T52 h52 v52 X52 K52 hQ52
    obtain rfl := hQ52
    show OGo _ _ _ _ T52 (mkF m 165 #[.val (.long px), .second, .val (.int pf), .val (.int p0), .val (.int p1), .val (.int p2), .val (.int (0 : Int32)), .val (.int ((XT.ushr pf (1 : Int32)) &&& (3 : Int32))), .val (.ref r2), .val (.ref r4), .val (.ref r8), .val (.ref r4), .val (.int (1 : Int32)), .val (.ref r2)] [(.int (1 : Int32))])
    refine own_retZ X52 at_165 hret rfl (by decide) (by decide) ?_
    exact rfl
  · -- not
    refine og_ifN X0 6 at_3 (XT.i0_eq_f hc1) rfl ?_
    refine og_iconst X0 7 (1 : Int32) at_6 rfl rfl ?_
    refine og_goto X0 11 at_7 (by decide) (by decide) ?_
    refine og_istore X0 13 #[.val (.long px), .second, .val (.int pf), .val (.int p0), .val (.int p1), .val (.int p2), .val (.int (1 : Int32)), .unset, .unset, .unset, .unset, .unset, .unset, .unset] at_11 rfl rfl ?_
    refine og_iloadN X0 14 at_13 rfl rfl ?_
    refine og_iconst X0 15 (1 : Int32) at_14 rfl rfl ?_
    refine og_iushr X0 16 at_15 rfl ?_
    refine og_iconst X0 17 (3 : Int32) at_16 rfl rfl ?_
    refine og_iand X0 18 at_17 rfl ?_
    refine og_istore X0 20 #[.val (.long px), .second, .val (.int pf), .val (.int p0), .val (.int p1), .val (.int p2), .val (.int (1 : Int32)), .val (.int ((XT.ushr pf (1 : Int32)) &&& (3 : Int32))), .unset, .unset, .unset, .unset, .unset, .unset] at_18 rfl rfl ?_
    refine og_iload X0 22 at_20 rfl rfl ?_
    refine og_iloadN X0 23 at_22 rfl rfl ?_
    refine og_iload X0 25 at_23 rfl rfl ?_
    refine og_iload X0 27 at_25 rfl rfl ?_
    refine own_stat X0 30 (argsL := [(.int ((XT.ushr pf (1 : Int32)) &&& (3 : Int32))), (.int p0), (.int p1), (.int p2)]) (rest := []) at_27 (rm1 l Z a0 hw n0 h0 hWd [] X0.old ((XT.ushr pf (1 : Int32)) &&& (3 : Int32)) p0 p1 p2  ) (hw _ (List.mem_of_getElem? (i := 0) rfl)) (hw _ (List.mem_of_getElem? (i := 1) rfl)) (hw _ (List.mem_of_getElem? (i := 2) rfl)) (hw _ (List.mem_of_getElem? (i := 3) rfl)) (by decide) (lenOf pd__28IIII_29Ljava_2flang_2fString_3b rfl) rfl rfl rfl (W := 0) rfl (by decide) (by decide) (by decide) (by decide) all0 rfl ?_
    intro T53 h53 v53 X53 K53 hQ53
    obtain ⟨r53, rfl, f54⟩ := hQ53
    show OGo _ _ _ _ T53 (mkF m 30 #[.val (.long px), .second, .val (.int pf), .val (.int p0), .val (.int p1), .val (.int p2), .val (.int (1 : Int32)), .val (.int ((XT.ushr pf (1 : Int32)) &&& (3 : Int32))), .unset, .unset, .unset, .unset, .unset, .unset] [(.ref r53)])
    refine og_astore X53 32 #[.val (.long px), .second, .val (.int pf), .val (.int p0), .val (.int p1), .val (.int p2), .val (.int (1 : Int32)), .val (.int ((XT.ushr pf (1 : Int32)) &&& (3 : Int32))), .val (.ref r53), .unset, .unset, .unset, .unset, .unset] at_30 rfl rfl rfl ?_
    refine og_iload X53 34 at_32 rfl rfl ?_
    refine og_ifN X53 37 at_34 (XT.i0_eq_f (by decide)) rfl ?_
    refine og_aconstNull X53 38 at_37 rfl ?_
    refine og_goto X53 45 at_38 (by decide) (by decide) ?_
    refine og_astore X53 47 #[.val (.long px), .second, .val (.int pf), .val (.int p0), .val (.int p1), .val (.int p2), .val (.int (1 : Int32)), .val (.int ((XT.ushr pf (1 : Int32)) &&& (3 : Int32))), .val (.ref r53), .val .null, .unset, .unset, .unset, .unset] at_45 rfl rfl rfl ?_
    refine og_aload X53 49 at_47 rfl rfl rfl ?_
    refine og_aload X53 51 at_49 rfl rfl rfl ?_
    refine own_stat X53 54 (argsL := [.null, (.ref r53)]) (rest := []) at_51 (rm8 l Z a0 hw n0 h53 hWd [] X53.old .null r53 rfl f54.exa ) (hw _ (List.mem_of_getElem? (i := 38) rfl)) (hw _ (List.mem_of_getElem? (i := 39) rfl)) (hw _ (List.mem_of_getElem? (i := 40) rfl)) (hw _ (List.mem_of_getElem? (i := 41) rfl)) (by decide) (lenOf pd__28Ljava_2flang_2fLong_3bLjava_2flang_2fString_3b_29Lcom_2fexample_2fchitragupta_2fchitragupta_2fmodel_2fJobResult_3b rfl) rfl rfl rfl (W := 0) rfl (by decide) (by decide) (by decide) (by decide) all0 rfl ?_
    intro T55 h55 v55 X55 K55 hQ55
    obtain ⟨r55, rfl, ge_r55, f56, f57, f58, f59⟩ := hQ55
    show OGo _ _ _ _ T55 (mkF m 54 #[.val (.long px), .second, .val (.int pf), .val (.int p0), .val (.int p1), .val (.int p2), .val (.int (1 : Int32)), .val (.int ((XT.ushr pf (1 : Int32)) &&& (3 : Int32))), .val (.ref r53), .val .null, .unset, .unset, .unset, .unset] [(.ref r55)])
    refine og_astore X55 56 #[.val (.long px), .second, .val (.int pf), .val (.int p0), .val (.int p1), .val (.int p2), .val (.int (1 : Int32)), .val (.int ((XT.ushr pf (1 : Int32)) &&& (3 : Int32))), .val (.ref r53), .val .null, .val (.ref r55), .unset, .unset, .unset] at_54 rfl rfl rfl ?_
    refine og_aload X55 58 at_56 rfl rfl rfl ?_
    refine own_virt X55 61 (a := r55) (argsL := []) (rest := []) at_58 f56 (fun _ hZ => notFace_of_selects (args := #[]) (mvT hZ (hw _ (List.mem_of_getElem? (i := 62) rfl)))) (rm11 l Z a0 hw n0 h55 hWd [] X55.old r55 r53 f59 ) (hw _ (List.mem_of_getElem? (i := 59) rfl)) (hw _ (List.mem_of_getElem? (i := 60) rfl)) (hw _ (List.mem_of_getElem? (i := 62) rfl)) (hw _ (List.mem_of_getElem? (i := 61) rfl)) (hw _ (List.mem_of_getElem? (i := 40) rfl)) (hw _ (List.mem_of_getElem? (i := 63) rfl)) (by decide) (lenOf pd__28_29Z rfl) rfl rfl rfl (W := 0) rfl (by decide) (by decide) (by decide) (by decide) all0 rfl ?_
    intro T60 h60 v60 X60 K60 hQ60
    obtain rfl := hQ60
    show OGo _ _ _ _ T60 (mkF m 61 #[.val (.long px), .second, .val (.int pf), .val (.int p0), .val (.int p1), .val (.int p2), .val (.int (1 : Int32)), .val (.int ((XT.ushr pf (1 : Int32)) &&& (3 : Int32))), .val (.ref r53), .val .null, .val (.ref r55), .unset, .unset, .unset] [(.int (0 : Int32))])
    refine og_ifY X60 66 at_61 (XT.i0_eq_t (by decide)) (by decide) (by decide) ?_
    refine og_aload X60 68 at_66 rfl rfl rfl ?_
    have f61 := f56.keep K60
    have f62 := f58.keep K60 nin0
    refine own_virt X60 71 (a := r55) (argsL := []) (rest := []) at_68 f61 (fun _ hZ => notFace_of_selects (args := #[]) (mvT hZ (hw _ (List.mem_of_getElem? (i := 67) rfl)))) (rm12 l Z a0 hw n0 h60 hWd [] X60.old r55 f62 ) (hw _ (List.mem_of_getElem? (i := 64) rfl)) (hw _ (List.mem_of_getElem? (i := 65) rfl)) (hw _ (List.mem_of_getElem? (i := 67) rfl)) (hw _ (List.mem_of_getElem? (i := 66) rfl)) (hw _ (List.mem_of_getElem? (i := 40) rfl)) (hw _ (List.mem_of_getElem? (i := 68) rfl)) (by decide) (lenOf pd__28_29Z rfl) rfl rfl rfl (W := 0) rfl (by decide) (by decide) (by decide) (by decide) all0 rfl ?_
    intro T63 h63 v63 X63 K63 hQ63
    obtain rfl := hQ63
    show OGo _ _ _ _ T63 (mkF m 71 #[.val (.long px), .second, .val (.int pf), .val (.int p0), .val (.int p1), .val (.int p2), .val (.int (1 : Int32)), .val (.int ((XT.ushr pf (1 : Int32)) &&& (3 : Int32))), .val (.ref r53), .val .null, .val (.ref r55), .unset, .unset, .unset] [(.int (0 : Int32))])
    refine og_ifY X63 76 at_71 (XT.i0_eq_t (by decide)) (by decide) (by decide) ?_
    refine og_aload X63 78 at_76 rfl rfl rfl ?_
    have f64 := f61.keep K63
    have f65 := f57.keep K60 nin0
    have f66 := f65.keep K63 nin0
    refine own_virt X63 81 (a := r55) (argsL := []) (rest := []) at_78 f64 (fun _ hZ => notFace_of_selects (args := #[]) (mvT hZ (hw _ (List.mem_of_getElem? (i := 72) rfl)))) (rm13 l Z a0 hw n0 h63 hWd [] X63.old r55 .null f66 rfl ) (hw _ (List.mem_of_getElem? (i := 69) rfl)) (hw _ (List.mem_of_getElem? (i := 70) rfl)) (hw _ (List.mem_of_getElem? (i := 72) rfl)) (hw _ (List.mem_of_getElem? (i := 71) rfl)) (hw _ (List.mem_of_getElem? (i := 40) rfl)) (hw _ (List.mem_of_getElem? (i := 73) rfl)) (by decide) (lenOf pd__28_29Ljava_2flang_2fLong_3b rfl) rfl rfl rfl (W := 0) rfl (by decide) (by decide) (by decide) (by decide) all0 rfl ?_
    intro T67 h67 v67 X67 K67 hQ67
    obtain rfl := hQ67
    show OGo _ _ _ _ T67 (mkF m 81 #[.val (.long px), .second, .val (.int pf), .val (.int p0), .val (.int p1), .val (.int p2), .val (.int (1 : Int32)), .val (.int ((XT.ushr pf (1 : Int32)) &&& (3 : Int32))), .val (.ref r53), .val .null, .val (.ref r55), .unset, .unset, .unset] [.null])
    refine og_astore X67 83 #[.val (.long px), .second, .val (.int pf), .val (.int p0), .val (.int p1), .val (.int p2), .val (.int (1 : Int32)), .val (.int ((XT.ushr pf (1 : Int32)) &&& (3 : Int32))), .val (.ref r53), .val .null, .val (.ref r55), .val .null, .unset, .unset] at_81 rfl rfl rfl ?_
    refine og_iload X67 85 at_83 rfl rfl ?_
    refine og_ifN X67 88 at_85 (XT.i0_eq_f (by decide)) rfl ?_
    refine og_aload X67 90 at_88 rfl rfl rfl ?_
    refine og_nonnullN X67 93 at_90 rfl ?_
    refine og_iconst X67 94 (1 : Int32) at_93 rfl rfl ?_
    refine og_goto X67 98 at_94 (by decide) (by decide) ?_
    refine og_istore X67 100 #[.val (.long px), .second, .val (.int pf), .val (.int p0), .val (.int p1), .val (.int p2), .val (.int (1 : Int32)), .val (.int ((XT.ushr pf (1 : Int32)) &&& (3 : Int32))), .val (.ref r53), .val .null, .val (.ref r55), .val .null, .val (.int (1 : Int32)), .unset] at_98 rfl rfl ?_
    refine og_goto X67 125 at_100 (by decide) (by decide) ?_
    refine og_iload X67 127 at_125 rfl rfl ?_
    refine og_ifY X67 132 at_127 (XT.i0_ne_t (by decide)) (by decide) (by decide) ?_
    refine og_aload X67 134 at_132 rfl rfl rfl ?_
    have f68 := f64.keep K67
    have f69 := f59.keep K60 nin0
    have f70 := f69.keep K63 nin0
    have f71 := f70.keep K67 nin0
    refine own_virt X67 137 (a := r55) (argsL := []) (rest := []) at_134 f68 (fun _ hZ => notFace_of_selects (args := #[]) (mvT hZ (hw _ (List.mem_of_getElem? (i := 84) rfl)))) (rm15 l Z a0 hw n0 h67 hWd [] X67.old r55 r53 f71 ) (hw _ (List.mem_of_getElem? (i := 81) rfl)) (hw _ (List.mem_of_getElem? (i := 82) rfl)) (hw _ (List.mem_of_getElem? (i := 84) rfl)) (hw _ (List.mem_of_getElem? (i := 83) rfl)) (hw _ (List.mem_of_getElem? (i := 40) rfl)) (hw _ (List.mem_of_getElem? (i := 85) rfl)) (by decide) (lenOf pd__28_29Ljava_2flang_2fString_3b rfl) rfl rfl rfl (W := 0) rfl (by decide) (by decide) (by decide) (by decide) all0 rfl ?_
    intro T72 h72 v72 X72 K72 hQ72
    obtain rfl := hQ72
    show OGo _ _ _ _ T72 (mkF m 137 #[.val (.long px), .second, .val (.int pf), .val (.int p0), .val (.int p1), .val (.int p2), .val (.int (1 : Int32)), .val (.int ((XT.ushr pf (1 : Int32)) &&& (3 : Int32))), .val (.ref r53), .val .null, .val (.ref r55), .val .null, .val (.int (1 : Int32)), .unset] [(.ref r53)])
    refine og_astore X72 139 #[.val (.long px), .second, .val (.int pf), .val (.int p0), .val (.int p1), .val (.int p2), .val (.int (1 : Int32)), .val (.int ((XT.ushr pf (1 : Int32)) &&& (3 : Int32))), .val (.ref r53), .val .null, .val (.ref r55), .val .null, .val (.int (1 : Int32)), .val (.ref r53)] at_137 rfl rfl rfl ?_
    refine og_aload X72 141 at_139 rfl rfl rfl ?_
    refine og_nonnullY X72 146 at_141 (by decide) (by decide) ?_
    refine og_aload X72 148 at_146 rfl rfl rfl ?_
    have f73 := f54.keep K55 all0
    have f74 := f73.keep K60 all0
    have f75 := f74.keep K63 all0
    have f76 := f75.keep K67 all0
    have f77 := f76.keep K72 all0
    refine own_strLen X72 151 at_148 f77 (own_wL hw) (hw _ (List.mem_of_getElem? (i := 14) rfl)) hWd.2.1.1 hWd.2.1.2 (hw _ (List.mem_of_getElem? (i := 86) rfl)) (hw _ (List.mem_of_getElem? (i := 87) rfl)) (hw _ (List.mem_of_getElem? (i := 89) rfl)) (hw _ (List.mem_of_getElem? (i := 88) rfl)) rfl (W := 0) rfl (by decide) (by decide) (by decide) (by decide) rfl ?_
    intro T78 X79
    refine og_iload X79 153 at_151 rfl rfl ?_
    refine og_icmpY X79 158 at_153 (XT.ii_eq_t (own_txt_len (own_and3 _))) (by decide) (by decide) ?_
    refine og_aload X79 160 at_158 rfl rfl rfl ?_
    refine og_aload X79 162 at_160 rfl rfl rfl ?_
    have f80 := f54.exa.keep K55
    have f81 := f80.keep K60
    have f82 := f81.keep K63
    have f83 := f82.keep K67
    have f84 := f83.keep K72
    refine own_virt X79 165 (a := r53) (argsL := [(.ref r53)]) (rest := []) at_162 f84 (fun _ hZ => notFace_of_selects (args := #[]) (mvT hZ (hw _ (List.mem_of_getElem? (i := 99) rfl)))) (rm18 l Z a0 hw n0 h72 hWd [] X79.old r53  ) (hw _ (List.mem_of_getElem? (i := 96) rfl)) (hw _ (List.mem_of_getElem? (i := 97) rfl)) (hw _ (List.mem_of_getElem? (i := 99) rfl)) (hw _ (List.mem_of_getElem? (i := 98) rfl)) (hw _ (List.mem_of_getElem? (i := 6) rfl)) (hw _ (List.mem_of_getElem? (i := 100) rfl)) (by decide) (lenOf pd__28Ljava_2flang_2fObject_3b_29Z rfl) rfl rfl rfl (W := 0) rfl (by decide) (by decide) (by decide) (by decide) all0 rfl ?_
    intro T85 h85 v85 X85 K85 hQ85
    obtain rfl := hQ85
    show OGo _ _ _ _ T85 (mkF m 165 #[.val (.long px), .second, .val (.int pf), .val (.int p0), .val (.int p1), .val (.int p2), .val (.int (1 : Int32)), .val (.int ((XT.ushr pf (1 : Int32)) &&& (3 : Int32))), .val (.ref r53), .val .null, .val (.ref r55), .val .null, .val (.int (1 : Int32)), .val (.ref r53)] [(.int (1 : Int32))])
    refine own_retZ X85 at_165 hret rfl (by decide) (by decide) ?_
    exact rfl
theorem own_held {s : State} {own : String} {i : Nat} (h : constHeld s own i) : Jvm.Lit.constHeld s own i := h
set_option maxRecDepth 65536 in
set_option maxHeartbeats 40000000 in
theorem comes_1 {Post : Tables → Env → Array Value → State → Outcome → State → Prop} (hpost : ∀ tb e args s v u, (limb_1_1.after args s (.returned v) u = true ∧ limb_1_2.after args s (.returned v) u = true ∧ True) → Jvm.ReturnedEndW s (.returned v) u (Jvm.fieldLocs frame_1_writes args s ++ Jvm.arrayLocs frame_1_arrays args s ++ Jvm.staticLocs frame_1_statics s) 24 1152 → Post tb e args s (.returned v) u) :
    ArmFor flags0 classFile x code maxLocals ret World_1 tables_1 room_1 Calls_1 rest_1 Pre_1 Post := by
  intro l hfl _ _ p e ha hc hk s m args below hf hA hF happ hP
  obtain ⟨hcalls, hrest, hpre⟩ := hP
  obtain ⟨-, -, -, hnamed, -, -, -, hat⟩ := (Spec.applies_iff hf).mp happ
  obtain ⟨hg, hn⟩ := and_e (Cond.before_iff.mp (show (Jvm.Cond.and given_1 narrow_1).before args s = true from hpre))
  obtain ⟨hcount, g0⟩ := and_e hg
  obtain ⟨i0, g1⟩ := and_e g0
  obtain ⟨i1, g2⟩ := and_e g1
  obtain ⟨i2, g3⟩ := and_e g2
  obtain ⟨i3, g4⟩ := and_e g3
  have i4 := g4
  obtain ⟨w0, w1, w2, w3, w4, rfl⟩ : ∃ w0 w1 w2 w3 w4 : Value, args = #[w0, w1, w2, w3, w4] := by
    have hs : args.size = 5 := by simpa [Cond.value, given_1] using hcount
    obtain ⟨L⟩ := args
    match L, hs with
    | [w0, w1, w2, w3, w4], _ => exact ⟨w0, w1, w2, w3, w4, rfl⟩
  have hw := fun d (hd : d ∈ tables_1) => atoms_spec (ws := Jvm.Cond.code x code maxLocals ret :: tables_1) hat d (List.mem_cons_of_mem _ hd)
  obtain ⟨hsets, hown0⟩ := atoms_of _ (rest_1_c_eq ▸ (show rest_1_c.before _ s = true from hrest))
  obtain ⟨x0, e0⟩ := isL_v i0
  obtain rfl : w0 = (.long x0) := Option.some.inj e0
  obtain ⟨x1, e1⟩ := is_v i1
  obtain rfl : w1 = (.int x1) := Option.some.inj e1
  obtain ⟨x2, e2⟩ := is_v i2
  obtain rfl : w2 = (.int x2) := Option.some.inj e2
  obtain ⟨x3, e3⟩ := is_v i3
  obtain rfl : w3 = (.int x3) := Option.some.inj e3
  obtain ⟨x4, e4⟩ := is_v i4
  obtain rfl : w4 = (.int x4) := Option.some.inj e4
  have hEL : EW s #[(.long x0), (.int x1), (.int x2), (.int x3), (.int x4)] own_EL := (EW.cons (hw _ (List.mem_of_getElem? (i := 119) rfl)) (by decide) EW.nil)
  obtain ⟨r0, f0⟩ := is_v (Cond.before_iff.mp (hsets _ (List.mem_of_getElem? (i := 1) rfl)))
  have t0 : own_sti s "java/lang/String" "COMPACT_STRINGS" "Z" = r0 := own_sti_of f0
  have S0 := Sta.start f0 (Or.inl (hsets _ (List.mem_of_getElem? (i := 0) rfl)))
  have c0 : ¬ (r0 = (0 : Int32)) := gotF (Cond.eq_ints f0 (Term.int_eval (0))) (not_v (Cond.before_iff.mp (hsets _ (List.mem_of_getElem? (i := 2) rfl))))
  have hWd : OWorld s #[(.long x0), (.int x1), (.int x2), (.int x3), (.int x4)] := ⟨hEL, ⟨by rw [t0]; exact S0, by rw [t0]; exact c0⟩, own_boxes (hsets _ (List.mem_of_getElem? (i := 12) rfl)) (hsets _ (List.mem_of_getElem? (i := 11) rfl)) (hsets _ (List.mem_of_getElem? (i := 13) rfl)) (by decide) (hsets _ (List.mem_of_getElem? (i := 14) rfl)) (hsets _ (List.mem_of_getElem? (i := 10) rfl)) (fun _ _ => own_boxL)⟩
  have hCH : CHv s own_EL s.vm s.heap := CHv.start hEL (fun p hp => own_held (hcalls.1 p hp)) (by have := (hsets _ (List.mem_of_getElem? (i := 2) rfl)); exact this) (hw _ (List.mem_of_getElem? (i := 18) rfl)) (hw _ (List.mem_of_getElem? (i := 14) rfl))
  obtain ⟨n, o, h1, h2, h3, v, L, rfl, ⟨N, -, hQ⟩, -, hqW, hqN⟩ := rm0 l s _ hw s.heap.size s.heap hWd tables_1 (Old.start s) x0 x1 x2 x3 x4 p e ha hc hk s m _ below hf ((Spec.applies_iff_loose hf).mp happ).1 ⟨rfl, State.Warmed39.refl s, rfl, hCH, fun _ q => nomatch q⟩ trivial
  obtain rfl := hQ
  refine ⟨n, _, h1, h2, h3, hpost _ _ _ _ _ _ ⟨Cond.after_iff.mpr rfl, Cond.after_iff.mpr (eq_i res_at (Term.int_eval (1)) rfl), trivial⟩ ⟨hqW.1, hqW.2.1, hqW.2.2.1, (hqW.2.2.2.sift fun y hy => Or.inr (N y hy)).mono (by decide) (by decide)⟩⟩
theorem main_1_1 : Claimed_1_1 := comes_1 fun _ _ _ _ _ _ h hF => ⟨h.1, hF⟩
theorem main_1_2 : Claimed_1_2 := comes_1 fun _ _ _ _ _ _ h hF => ⟨h.2.1, hF⟩
end Jvm.Pilot.@@N@@
namespace Jvm.Pilot.@@N@@
open Jvm Jvm.ClassFile Sem Op Lib Jvm.Free Jvm.Stand Jvm.Pilot.@@N@@.Jvm.D
/-! MADE BY PROGRAM (witnessworld.py) out of the Statement's table words and the real class files: 25 classes; the members and pool entries that the words name. The judged class is class 1, her method 2. -/
namespace start1
open Jvm.ClassFile
def u (s : String) : CpInfo := .utf8 (stringToUtf16 s)
/-- a pool by its gaps: so many unusable entries, then the entry; so many at the end -/
def gap : Nat → List CpInfo → List CpInfo
  | 0, r => r
  | n + 1, r => .unusable :: gap n r
def poolList (es : List (Nat × CpInfo)) (last : Nat) : List CpInfo := es.foldr (fun e r => gap e.1 (e.2 :: r)) (gap last [])
def pool (es : List (Nat × CpInfo)) (last : Nat) : Array CpInfo := ⟨poolList es last⟩
def fileOf (pool : Array CpInfo) (this : Nat) (attrs : Array Attribute := #[]) (ms : Array MethodInfo := #[]) (fl : Nat := 33) (sup : Nat := 0) (ifs : Array Nat := #[]) (fds : Array FieldInfo := #[]) : ClassFile where
  minorVersion := 0
  majorVersion := 65
  constantPool := pool
  accessFlags := fl
  thisClass := this
  superClass := sup
  interfaces := ifs
  fields := fds
  methods := ms
  attributes := attrs
def plain (name : String) (sup : Option ClassId) : Class where
  name := name
  kind := .ordinary
  loader := none
  accessFlags := 33
  super := sup
  interfaces := #[]
  cf := none
  fields := #[]
  methods := #[]
  instanceTypes := #[]
  staticTypes := #[]
  resolved := #[]
  callSites := []
  init := .initialized
  statics := none
  mirror := none

def pool0 : Array CpInfo := pool [(5, u "<init>"), (0, u "()V"), (1, .class_ 10), (1, u "java/lang/Object")] 113

def k0c0 : Code := { maxStack := 0, maxLocals := 1, code := object_method_1_code, exceptionTable := #[], attributes := #[] }
def k0m0 : Method := { name := "<init>", desc := "()V", sig := { parameters := [], returnType := none }, accessFlags := 1, code := some k0c0 }
/-- java/lang/Object -/
def k0 : Class := { plain "java/lang/Object" none with
  accessFlags := 33
  interfaces := #[]
  cf := some (fileOf pool0 8 #[] #[{ accessFlags := 1, nameIndex := 5, descriptorIndex := 6, attributes := #[] }] 33 0 #[] #[])
  fields := #[]
  methods := #[k0m0]
  instanceTypes := #[]
  staticTypes := #[]
  resolved := Array.replicate 124 none
  statics := none }

def pool1 : Array CpInfo := pool [(2, .class_ 4), (1, u "java/lang/Object"), (0, u "<init>"), (0, u "()V"), (0, .string 8), (0, u ""), (0, .methodref 10 11), (0, .class_ 12), (0, .nameAndType 13 14), (0, u "java/lang/String"), (0, u "valueOf"), (0, u "(C)Ljava/lang/String;"), (0, .methodref 10 16), (0, .nameAndType 5 17), (0, u "([C)V"), (0, .methodref 19 20), (0, .class_ 21), (0, .nameAndType 22 23), (0, u "com/example/chitragupta/chitragupta/model/JobResultFailedPinLaw"), (0, u "text"), (0, u "(IIII)Ljava/lang/String;"), (0, .methodref 25 26), (0, .class_ 27), (0, .nameAndType 13 28), (0, u "java/lang/Long"), (0, u "(J)Ljava/lang/Long;"), (0, .methodref 30 31), (0, .class_ 32), (0, .nameAndType 33 34), (0, u "com/example/chitragupta/chitragupta/model/JobResult"), (0, u "failed"), (0, u "(Ljava/lang/Long;Ljava/lang/String;)Lcom/example/chitragupta/chitragupta/model/JobResult;"), (0, .methodref 30 36), (0, .nameAndType 37 38), (0, u "hasSucceeded"), (0, u "()Z"), (0, .methodref 30 40), (0, .nameAndType 41 38), (0, u "isConflict"), (0, .methodref 30 43), (0, .nameAndType 44 45), (0, u "getTicketId"), (0, u "()Ljava/lang/Long;"), (0, .methodref 25 47), (0, .nameAndType 48 49), (0, u "longValue"), (0, u "()J"), (0, .methodref 30 51), (0, .nameAndType 52 53), (0, u "getDetails"), (0, u "()Ljava/lang/String;"), (0, .methodref 10 55), (0, .nameAndType 56 57), (0, u "length"), (0, u "()I"), (0, .methodref 10 59), (0, .nameAndType 60 61), (0, u "equals"), (0, u "(Ljava/lang/Object;)Z"), (3, u "law"), (0, u "(JIIII)Z")] 2

def k1m0 : Method := { name := "<init>", desc := "()V", sig := { parameters := [], returnType := none }, accessFlags := 1, code := none }
def k1c1 : Code := { maxStack := 3, maxLocals := 8, code := method_2_code, exceptionTable := #[], attributes := #[] }
def k1m1 : Method := { name := "text", desc := "(IIII)Ljava/lang/String;", sig := { parameters := [.int, .int, .int, .int], returnType := some (.object "java/lang/String") }, accessFlags := 10, code := some k1c1 }
def k1c2 : Code := { maxStack := 4, maxLocals := 14, code := code, exceptionTable := #[], attributes := #[] }
def k1m2 : Method := { name := "law", desc := "(JIIII)Z", sig := { parameters := [.long, .int, .int, .int, .int], returnType := some .boolean }, accessFlags := 9, code := some k1c2 }
/-- com/example/chitragupta/chitragupta/model/JobResultFailedPinLaw -/
def k1 : Class := { plain "com/example/chitragupta/chitragupta/model/JobResultFailedPinLaw" (some 0) with
  accessFlags := 49
  interfaces := #[]
  cf := some (fileOf pool1 19 #[] #[{ accessFlags := 1, nameIndex := 5, descriptorIndex := 6, attributes := #[] }, { accessFlags := 10, nameIndex := 22, descriptorIndex := 23, attributes := #[] }, { accessFlags := 9, nameIndex := 65, descriptorIndex := 66, attributes := #[] }] 49 2 #[] #[])
  fields := #[]
  methods := #[k1m0, k1m1, k1m2]
  instanceTypes := #[]
  staticTypes := #[]
  resolved := Array.replicate 69 none
  statics := none }

def pool2 : Array CpInfo := pool [(1, .class_ 2), (0, u "java/io/Serializable"), (0, .class_ 4), (0, u "java/lang/Object")] 2

/-- java/io/Serializable -/
def k2 : Class := { plain "java/io/Serializable" (some 0) with
  accessFlags := 1537
  interfaces := #[]
  cf := some (fileOf pool2 1 #[] #[] 1537 3 #[] #[])
  fields := #[]
  methods := #[]
  instanceTypes := #[]
  staticTypes := #[]
  resolved := Array.replicate 7 none
  statics := none }

def pool3 : Array CpInfo := pool [(1, .class_ 2), (0, u "java/lang/Comparable"), (0, .class_ 4), (0, u "java/lang/Object")] 7

/-- java/lang/Comparable -/
def k3 : Class := { plain "java/lang/Comparable" (some 0) with
  accessFlags := 1537
  interfaces := #[]
  cf := some (fileOf pool3 1 #[] #[] 1537 3 #[] #[])
  fields := #[]
  methods := #[]
  instanceTypes := #[]
  staticTypes := #[]
  resolved := Array.replicate 12 none
  statics := none }

def pool4 : Array CpInfo := pool [(2, .class_ 4), (1, u "java/lang/CharSequence"), (42, .class_ 48), (0, u "java/lang/CharSequence$1CodePointIterator"), (10, .class_ 60), (0, u "java/lang/CharSequence$1CharIterator"), (5, .class_ 67), (0, u "java/lang/Object")] 63

/-- java/lang/CharSequence -/
def k4 : Class := { plain "java/lang/CharSequence" (some 0) with
  accessFlags := 1537
  interfaces := #[]
  cf := some (fileOf pool4 2 #[.nestMembers #[47, 59]] #[] 1537 66 #[] #[])
  fields := #[]
  methods := #[]
  instanceTypes := #[]
  staticTypes := #[]
  resolved := Array.replicate 131 none
  statics := none }

def pool5 : Array CpInfo := pool [(1, .class_ 2), (0, u "java/lang/constant/Constable"), (0, .class_ 4), (0, u "java/lang/Object")] 6

/-- java/lang/constant/Constable -/
def k5 : Class := { plain "java/lang/constant/Constable" (some 0) with
  accessFlags := 1537
  interfaces := #[]
  cf := some (fileOf pool5 1 #[] #[] 1537 3 #[] #[])
  fields := #[]
  methods := #[]
  instanceTypes := #[]
  staticTypes := #[]
  resolved := Array.replicate 11 none
  statics := none }

def pool6 : Array CpInfo := pool [(1, .class_ 2), (0, u "java/lang/constant/ConstantDesc"), (0, .class_ 4), (0, u "java/lang/Object")] 32

/-- java/lang/constant/ConstantDesc -/
def k6 : Class := { plain "java/lang/constant/ConstantDesc" (some 0) with
  accessFlags := 1537
  interfaces := #[]
  cf := some (fileOf pool6 1 #[] #[] 1537 3 #[] #[])
  fields := #[]
  methods := #[]
  instanceTypes := #[]
  staticTypes := #[]
  resolved := Array.replicate 37 none
  statics := none }

def pool7 : Array CpInfo := pool [(1, .methodref 2 3), (0, .class_ 4), (0, .nameAndType 5 6), (0, u "java/lang/Object"), (0, u "<init>"), (0, u "()V"), (2, .fieldref 10 11), (0, .class_ 12), (0, .nameAndType 13 14), (0, u "java/lang/String"), (0, u "value"), (0, u "[B"), (0, .fieldref 10 16), (0, .nameAndType 17 18), (0, u "coder"), (0, u "B"), (2, u "hash"), (0, u "I"), (2, u "hashIsZero"), (0, u "Z"), (0, .methodref 10 28), (0, .nameAndType 5 29), (0, u "([CIILjava/lang/Void;)V"), (8, .fieldref 10 39), (0, .nameAndType 40 26), (0, u "COMPACT_STRINGS"), (1, .class_ 44), (1, u "java/lang/StringUTF16"), (0, u "compress"), (1, .methodref 42 48), (0, .nameAndType 49 50), (0, u "coderFromArrayLen"), (0, u "([BI)B"), (2, u "toBytes"), (53, .class_ 109), (1, u "java/lang/StringLatin1"), (67, .methodref 42 178), (0, .nameAndType 45 179), (0, u "([CII)[B"), (29, .methodref 10 210), (0, .nameAndType 5 211), (0, u "([BB)V"), (122, u "()I"), (0, .methodref 10 336), (0, .nameAndType 17 337), (0, u "()B"), (31, u "(C)Z"), (137, u "length"), (35, u "equals"), (29, u "(Ljava/lang/Object;)Z"), (1, .class_ 576), (0, u "java/lang/CharSequence"), (22, u "CASE_INSENSITIVE_ORDER"), (0, u "Ljava/util/Comparator;"), (181, u "valueOf"), (0, u "(C)Ljava/lang/String;"), (226, u "([C)V"), (4, .methodref 107 1016), (0, .nameAndType 1017 369), (0, u "canEncode"), (0, .methodref 107 1019), (0, .nameAndType 53 1020), (0, u "(C)[B"), (80, u "serialPersistentFields"), (0, u "[Ljava/io/ObjectStreamField;"), (0, .class_ 1104), (0, u "java/lang/String$CaseInsensitiveComparator"), (1, .class_ 1107), (0, u "java/io/Serializable"), (0, .class_ 1109), (0, u "java/lang/Comparable"), (0, .class_ 1111), (0, u "java/lang/constant/Constable"), (0, .class_ 1113), (0, u "java/lang/constant/ConstantDesc"), (2, u "serialVersionUID"), (0, u "J"), (3, u "REPL"), (0, u "C"), (2, u "LATIN1"), (1, u "UTF16")] 323

def k7m0 : Method := { name := "<init>", desc := "()V", sig := { parameters := [], returnType := none }, accessFlags := 1, code := none }
def k7c1 : Code := { maxStack := 5, maxLocals := 2, code := jdk_42_method_3_code, exceptionTable := #[], attributes := #[] }
def k7m1 : Method := { name := "<init>", desc := "([C)V", sig := { parameters := [(.array .char)], returnType := none }, accessFlags := 1, code := some k7c1 }
def k7c2 : Code := { maxStack := 2, maxLocals := 1, code := jdk_42_method_54_code, exceptionTable := #[], attributes := #[] }
def k7m2 : Method := { name := "length", desc := "()I", sig := { parameters := [], returnType := some .int }, accessFlags := 1, code := some k7c2 }
def k7c3 : Code := { maxStack := 2, maxLocals := 3, code := jdk_42_method_66_code, exceptionTable := #[], attributes := #[] }
def k7m3 : Method := { name := "equals", desc := "(Ljava/lang/Object;)Z", sig := { parameters := [(.object "java/lang/Object")], returnType := some .boolean }, accessFlags := 1, code := some k7c3 }
def k7c4 : Code := { maxStack := 4, maxLocals := 1, code := jdk_42_method_139_code, exceptionTable := #[], attributes := #[] }
def k7m4 : Method := { name := "valueOf", desc := "(C)Ljava/lang/String;", sig := { parameters := [.char], returnType := some (.object "java/lang/String") }, accessFlags := 9, code := some k7c4 }
def k7c5 : Code := { maxStack := 4, maxLocals := 6, code := jdk_42_method_149_code, exceptionTable := #[], attributes := #[] }
def k7m5 : Method := { name := "<init>", desc := "([CIILjava/lang/Void;)V", sig := { parameters := [(.array .char), .int, .int, (.object "java/lang/Void")], returnType := none }, accessFlags := 2, code := some k7c5 }
def k7c6 : Code := { maxStack := 2, maxLocals := 3, code := jdk_42_method_151_code, exceptionTable := #[], attributes := #[] }
def k7m6 : Method := { name := "<init>", desc := "([BB)V", sig := { parameters := [(.array .byte), .byte], returnType := none }, accessFlags := 0, code := some k7c6 }
def k7c7 : Code := { maxStack := 1, maxLocals := 1, code := jdk_42_method_152_code, exceptionTable := #[], attributes := #[] }
def k7m7 : Method := { name := "coder", desc := "()B", sig := { parameters := [], returnType := some .byte }, accessFlags := 0, code := some k7c7 }
/-- java/lang/String -/
def k7 : Class := { plain "java/lang/String" (some 0) with
  accessFlags := 49
  interfaces := #[2, 3, 4, 5, 6]
  cf := some (fileOf pool7 10 #[.nestMembers #[1103]] #[{ accessFlags := 1, nameIndex := 5, descriptorIndex := 6, attributes := #[] }, { accessFlags := 1, nameIndex := 5, descriptorIndex := 1010, attributes := #[] }, { accessFlags := 1, nameIndex := 507, descriptorIndex := 334, attributes := #[] }, { accessFlags := 1, nameIndex := 543, descriptorIndex := 573, attributes := #[] }, { accessFlags := 9, nameIndex := 782, descriptorIndex := 783, attributes := #[] }, { accessFlags := 2, nameIndex := 5, descriptorIndex := 29, attributes := #[] }, { accessFlags := 0, nameIndex := 5, descriptorIndex := 211, attributes := #[] }, { accessFlags := 0, nameIndex := 17, descriptorIndex := 337, attributes := #[] }] 49 2 #[1106, 1108, 575, 1110, 1112] #[{ accessFlags := 18, nameIndex := 13, descriptorIndex := 14, attributes := #[] }, { accessFlags := 18, nameIndex := 17, descriptorIndex := 18, attributes := #[] }, { accessFlags := 2, nameIndex := 21, descriptorIndex := 22, attributes := #[] }, { accessFlags := 2, nameIndex := 25, descriptorIndex := 26, attributes := #[] }, { accessFlags := 26, nameIndex := 1116, descriptorIndex := 1117, attributes := #[] }, { accessFlags := 24, nameIndex := 40, descriptorIndex := 26, attributes := #[] }, { accessFlags := 26, nameIndex := 1101, descriptorIndex := 1102, attributes := #[] }, { accessFlags := 26, nameIndex := 1121, descriptorIndex := 1122, attributes := #[] }, { accessFlags := 25, nameIndex := 599, descriptorIndex := 600, attributes := #[] }, { accessFlags := 24, nameIndex := 1125, descriptorIndex := 18, attributes := #[] }, { accessFlags := 24, nameIndex := 1127, descriptorIndex := 18, attributes := #[] }])
  fields := #[{ name := "value", type := (.array .byte), accessFlags := 18, slot := 0, constantValue := 0 }, { name := "coder", type := .byte, accessFlags := 18, slot := 1, constantValue := 0 }, { name := "hash", type := .int, accessFlags := 2, slot := 2, constantValue := 0 }, { name := "hashIsZero", type := .boolean, accessFlags := 2, slot := 3, constantValue := 0 }, { name := "serialVersionUID", type := .long, accessFlags := 26, slot := 0, constantValue := 0 }, { name := "COMPACT_STRINGS", type := .boolean, accessFlags := 24, slot := 1, constantValue := 0 }, { name := "serialPersistentFields", type := (.array (.object "java/io/ObjectStreamField")), accessFlags := 26, slot := 2, constantValue := 0 }, { name := "REPL", type := .char, accessFlags := 26, slot := 3, constantValue := 0 }, { name := "CASE_INSENSITIVE_ORDER", type := (.object "java/util/Comparator"), accessFlags := 25, slot := 4, constantValue := 0 }, { name := "LATIN1", type := .byte, accessFlags := 24, slot := 5, constantValue := 0 }, { name := "UTF16", type := .byte, accessFlags := 24, slot := 6, constantValue := 0 }]
  methods := #[k7m0, k7m1, k7m2, k7m3, k7m4, k7m5, k7m6, k7m7]
  instanceTypes := #[(.array .byte), .byte, .int, .boolean]
  staticTypes := #[.long, .boolean, (.array (.object "java/io/ObjectStreamField")), .char, (.object "java/util/Comparator"), .byte, .byte]
  resolved := Array.replicate 1451 none
  statics := some 0 }

def pool8 : Array CpInfo := pool [(4, .class_ 6), (1, u "java/lang/Object"), (0, u "<init>"), (0, u "()V"), (5, .class_ 16), (1, u "java/lang/StringLatin1"), (73, u "canEncode"), (14, u "(C)Z"), (15, u "$assertionsDisabled"), (0, u "Z"), (98, .class_ 223), (1, u "java/lang/StringLatin1$LinesSpliterator"), (156, u "toBytes"), (1, u "(C)[B"), (7, .class_ 391), (0, u "java/lang/StringLatin1$CharsSpliterator")] 3

def k8m0 : Method := { name := "<init>", desc := "()V", sig := { parameters := [], returnType := none }, accessFlags := 0, code := none }
def k8c1 : Code := { maxStack := 2, maxLocals := 1, code := jdk_43_method_3_code, exceptionTable := #[], attributes := #[] }
def k8m1 : Method := { name := "canEncode", desc := "(C)Z", sig := { parameters := [.char], returnType := some .boolean }, accessFlags := 9, code := some k8c1 }
def k8c2 : Code := { maxStack := 4, maxLocals := 1, code := jdk_43_method_46_code, exceptionTable := #[], attributes := #[] }
def k8m2 : Method := { name := "toBytes", desc := "(C)[B", sig := { parameters := [.char], returnType := some (.array .byte) }, accessFlags := 9, code := some k8c2 }
/-- java/lang/StringLatin1 -/
def k8 : Class := { plain "java/lang/StringLatin1" (some 0) with
  accessFlags := 48
  interfaces := #[]
  cf := some (fileOf pool8 14 #[.nestMembers #[390, 221]] #[{ accessFlags := 0, nameIndex := 7, descriptorIndex := 8, attributes := #[] }, { accessFlags := 9, nameIndex := 90, descriptorIndex := 105, attributes := #[] }, { accessFlags := 9, nameIndex := 380, descriptorIndex := 382, attributes := #[] }] 48 4 #[] #[{ accessFlags := 4120, nameIndex := 121, descriptorIndex := 122, attributes := #[] }])
  fields := #[{ name := "$assertionsDisabled", type := .boolean, accessFlags := 4120, slot := 0, constantValue := 0 }]
  methods := #[k8m0, k8m1, k8m2]
  instanceTypes := #[]
  staticTypes := #[.boolean]
  resolved := Array.replicate 395 none
  statics := none }

def pool9 : Array CpInfo := pool [(1, .methodref 2 3), (0, .class_ 4), (0, .nameAndType 5 6), (0, u "java/lang/Object"), (0, u "<init>"), (0, u "()V"), (1, .class_ 10), (1, u "java/lang/Number"), (2, .class_ 14), (0, u "java/io/Serializable"), (0, u "serialVersionUID"), (0, u "J")] 20

def k9c0 : Code := { maxStack := 1, maxLocals := 1, code := jdk_18_method_1_code, exceptionTable := #[], attributes := #[] }
def k9m0 : Method := { name := "<init>", desc := "()V", sig := { parameters := [], returnType := none }, accessFlags := 1, code := some k9c0 }
/-- java/lang/Number -/
def k9 : Class := { plain "java/lang/Number" (some 0) with
  accessFlags := 1057
  interfaces := #[2]
  cf := some (fileOf pool9 8 #[] #[{ accessFlags := 1, nameIndex := 5, descriptorIndex := 6, attributes := #[] }] 1057 2 #[13] #[{ accessFlags := 26, nameIndex := 15, descriptorIndex := 16, attributes := #[] }])
  fields := #[{ name := "serialVersionUID", type := .long, accessFlags := 26, slot := 0, constantValue := 0 }]
  methods := #[k9m0]
  instanceTypes := #[]
  staticTypes := #[.long]
  resolved := Array.replicate 37 none
  statics := none }

def pool10 : Array CpInfo := pool [(1, .class_ 2), (0, u "java/lang/Long"), (55, .nameAndType 59 60), (0, u "<init>"), (0, u "()V"), (24, u "valueOf"), (143, u "(J)Ljava/lang/Long;"), (0, .long 18446744073709551488), (1, .long 127), (1, .fieldref 235 236), (0, .class_ 237), (0, .nameAndType 238 239), (0, u "java/lang/Long$LongCache"), (0, u "cache"), (0, u "[Ljava/lang/Long;"), (0, .methodref 1 241), (0, .nameAndType 59 242), (0, u "(J)V"), (27, .methodref 271 58), (0, .class_ 272), (0, u "java/lang/Number"), (0, .fieldref 1 274), (0, .nameAndType 275 276), (0, u "value"), (0, u "J"), (5, u "longValue"), (0, u "()J"), (77, u "TYPE"), (0, u "Ljava/lang/Class;"), (0, .class_ 364), (0, u "java/lang/Comparable"), (0, .class_ 366), (0, u "java/lang/constant/Constable"), (0, .class_ 368), (0, u "java/lang/constant/ConstantDesc"), (0, u "MIN_VALUE"), (1, u "MAX_VALUE"), (4, u "SIZE"), (0, u "I"), (1, u "BYTES"), (1, u "serialVersionUID")] 142

def k10c0 : Code := { maxStack := 4, maxLocals := 3, code := jdk_35_method_24_code, exceptionTable := #[], attributes := #[] }
def k10m0 : Method := { name := "valueOf", desc := "(J)Ljava/lang/Long;", sig := { parameters := [.long], returnType := some (.object "java/lang/Long") }, accessFlags := 9, code := some k10c0 }
def k10c1 : Code := { maxStack := 3, maxLocals := 3, code := jdk_35_method_26_code, exceptionTable := #[], attributes := #[] }
def k10m1 : Method := { name := "<init>", desc := "(J)V", sig := { parameters := [.long], returnType := none }, accessFlags := 1, code := some k10c1 }
def k10c2 : Code := { maxStack := 2, maxLocals := 1, code := jdk_35_method_31_code, exceptionTable := #[], attributes := #[] }
def k10m2 : Method := { name := "longValue", desc := "()J", sig := { parameters := [], returnType := some .long }, accessFlags := 1, code := some k10c2 }
/-- java/lang/Long -/
def k10 : Class := { plain "java/lang/Long" (some 9) with
  accessFlags := 49
  interfaces := #[3, 5, 6]
  cf := some (fileOf pool10 1 #[.nestMembers #[235]] #[{ accessFlags := 9, nameIndex := 85, descriptorIndex := 229, attributes := #[] }, { accessFlags := 1, nameIndex := 59, descriptorIndex := 242, attributes := #[] }, { accessFlags := 1, nameIndex := 282, descriptorIndex := 283, attributes := #[] }] 49 271 #[363, 365, 367] #[{ accessFlags := 25, nameIndex := 369, descriptorIndex := 276, attributes := #[] }, { accessFlags := 25, nameIndex := 371, descriptorIndex := 276, attributes := #[] }, { accessFlags := 25, nameIndex := 361, descriptorIndex := 362, attributes := #[] }, { accessFlags := 18, nameIndex := 275, descriptorIndex := 276, attributes := #[] }, { accessFlags := 25, nameIndex := 376, descriptorIndex := 377, attributes := #[] }, { accessFlags := 25, nameIndex := 379, descriptorIndex := 377, attributes := #[] }, { accessFlags := 26, nameIndex := 381, descriptorIndex := 276, attributes := #[] }])
  fields := #[{ name := "MIN_VALUE", type := .long, accessFlags := 25, slot := 0, constantValue := 0 }, { name := "MAX_VALUE", type := .long, accessFlags := 25, slot := 1, constantValue := 0 }, { name := "TYPE", type := (.object "java/lang/Class"), accessFlags := 25, slot := 2, constantValue := 0 }, { name := "value", type := .long, accessFlags := 18, slot := 0, constantValue := 0 }, { name := "SIZE", type := .int, accessFlags := 25, slot := 3, constantValue := 0 }, { name := "BYTES", type := .int, accessFlags := 25, slot := 4, constantValue := 0 }, { name := "serialVersionUID", type := .long, accessFlags := 26, slot := 5, constantValue := 0 }]
  methods := #[k10m0, k10m1, k10m2]
  instanceTypes := #[.long]
  staticTypes := #[.long, .long, (.object "java/lang/Class"), .int, .int, .long]
  resolved := Array.replicate 524 none
  statics := none }

def pool11 : Array CpInfo := pool [(2, .class_ 4), (1, u "java/lang/Object"), (0, u "<init>"), (0, u "()V"), (0, .class_ 8), (0, u "java/lang/Long"), (7, .class_ 18), (1, u "java/lang/Long$LongCache"), (0, u "$assertionsDisabled"), (0, u "Z"), (8, u "archivedCache"), (0, u "[Ljava/lang/Long;"), (7, u "cache")] 24

def k11m0 : Method := { name := "<init>", desc := "()V", sig := { parameters := [], returnType := none }, accessFlags := 2, code := none }
/-- java/lang/Long$LongCache -/
def k11 : Class := { plain "java/lang/Long$LongCache" (some 0) with
  accessFlags := 48
  interfaces := #[]
  cf := some (fileOf pool11 16 #[.nestHost 7] #[{ accessFlags := 2, nameIndex := 5, descriptorIndex := 6, attributes := #[] }] 48 2 #[] #[{ accessFlags := 24, nameIndex := 38, descriptorIndex := 30, attributes := #[] }, { accessFlags := 8, nameIndex := 29, descriptorIndex := 30, attributes := #[] }, { accessFlags := 4120, nameIndex := 19, descriptorIndex := 20, attributes := #[] }])
  fields := #[{ name := "cache", type := (.array (.object "java/lang/Long")), accessFlags := 24, slot := 0, constantValue := 0 }, { name := "archivedCache", type := (.array (.object "java/lang/Long")), accessFlags := 8, slot := 1, constantValue := 0 }, { name := "$assertionsDisabled", type := .boolean, accessFlags := 4120, slot := 2, constantValue := 0 }]
  methods := #[k11m0]
  instanceTypes := #[]
  staticTypes := #[(.array (.object "java/lang/Long")), (.array (.object "java/lang/Long")), .boolean]
  resolved := Array.replicate 63 none
  statics := some 1 }

def pool12 : Array CpInfo := pool [(1, .methodref 2 3), (0, .class_ 4), (0, .nameAndType 5 6), (0, u "java/lang/Object"), (0, u "<init>"), (0, u "()V"), (0, .fieldref 8 9), (0, .class_ 10), (0, .nameAndType 11 12), (0, u "com/example/chitragupta/chitragupta/model/JobResult"), (0, u "ticketId"), (0, u "Ljava/lang/Long;"), (0, .fieldref 8 14), (0, .nameAndType 15 16), (0, u "conflict"), (0, u "Z"), (0, .fieldref 8 18), (0, .nameAndType 19 20), (0, u "details"), (0, u "Ljava/lang/String;"), (6, .methodref 8 28), (0, .nameAndType 5 29), (0, u "(Ljava/lang/Long;ZLjava/lang/String;)V"), (0, .methodref 31 32), (0, .class_ 33), (0, .nameAndType 34 35), (0, u "java/util/Objects"), (0, u "requireNonNull"), (0, u "(Ljava/lang/Object;)Ljava/lang/Object;"), (0, .class_ 37), (0, u "java/lang/String"), (4, u "failed"), (0, u "(Ljava/lang/Long;Ljava/lang/String;)Lcom/example/chitragupta/chitragupta/model/JobResult;"), (0, u "hasSucceeded"), (0, u "()Z"), (1, u "isConflict"), (0, u "getTicketId"), (0, u "()Ljava/lang/Long;"), (0, u "getDetails"), (0, u "()Ljava/lang/String;")] 2

def k12c0 : Code := { maxStack := 2, maxLocals := 4, code := prog_27_method_1_code, exceptionTable := #[], attributes := #[] }
def k12m0 : Method := { name := "<init>", desc := "(Ljava/lang/Long;ZLjava/lang/String;)V", sig := { parameters := [(.object "java/lang/Long"), .boolean, (.object "java/lang/String")], returnType := none }, accessFlags := 2, code := some k12c0 }
def k12c1 : Code := { maxStack := 5, maxLocals := 2, code := prog_27_method_3_code, exceptionTable := #[], attributes := #[] }
def k12m1 : Method := { name := "failed", desc := "(Ljava/lang/Long;Ljava/lang/String;)Lcom/example/chitragupta/chitragupta/model/JobResult;", sig := { parameters := [(.object "java/lang/Long"), (.object "java/lang/String")], returnType := some (.object "com/example/chitragupta/chitragupta/model/JobResult") }, accessFlags := 9, code := some k12c1 }
def k12c2 : Code := { maxStack := 1, maxLocals := 1, code := prog_27_method_5_code, exceptionTable := #[], attributes := #[] }
def k12m2 : Method := { name := "hasSucceeded", desc := "()Z", sig := { parameters := [], returnType := some .boolean }, accessFlags := 1, code := some k12c2 }
def k12c3 : Code := { maxStack := 1, maxLocals := 1, code := prog_27_method_6_code, exceptionTable := #[], attributes := #[] }
def k12m3 : Method := { name := "isConflict", desc := "()Z", sig := { parameters := [], returnType := some .boolean }, accessFlags := 1, code := some k12c3 }
def k12c4 : Code := { maxStack := 1, maxLocals := 1, code := prog_27_method_7_code, exceptionTable := #[], attributes := #[] }
def k12m4 : Method := { name := "getTicketId", desc := "()Ljava/lang/Long;", sig := { parameters := [], returnType := some (.object "java/lang/Long") }, accessFlags := 1, code := some k12c4 }
def k12c5 : Code := { maxStack := 1, maxLocals := 1, code := prog_27_method_8_code, exceptionTable := #[], attributes := #[] }
def k12m5 : Method := { name := "getDetails", desc := "()Ljava/lang/String;", sig := { parameters := [], returnType := some (.object "java/lang/String") }, accessFlags := 1, code := some k12c5 }
/-- com/example/chitragupta/chitragupta/model/JobResult -/
def k12 : Class := { plain "com/example/chitragupta/chitragupta/model/JobResult" (some 0) with
  accessFlags := 33
  interfaces := #[]
  cf := some (fileOf pool12 8 #[] #[{ accessFlags := 2, nameIndex := 5, descriptorIndex := 29, attributes := #[] }, { accessFlags := 9, nameIndex := 42, descriptorIndex := 43, attributes := #[] }, { accessFlags := 1, nameIndex := 44, descriptorIndex := 45, attributes := #[] }, { accessFlags := 1, nameIndex := 47, descriptorIndex := 45, attributes := #[] }, { accessFlags := 1, nameIndex := 48, descriptorIndex := 49, attributes := #[] }, { accessFlags := 1, nameIndex := 50, descriptorIndex := 51, attributes := #[] }] 33 2 #[] #[{ accessFlags := 18, nameIndex := 11, descriptorIndex := 12, attributes := #[] }, { accessFlags := 18, nameIndex := 15, descriptorIndex := 16, attributes := #[] }, { accessFlags := 18, nameIndex := 19, descriptorIndex := 20, attributes := #[] }])
  fields := #[{ name := "ticketId", type := (.object "java/lang/Long"), accessFlags := 18, slot := 0, constantValue := 0 }, { name := "conflict", type := .boolean, accessFlags := 18, slot := 1, constantValue := 0 }, { name := "details", type := (.object "java/lang/String"), accessFlags := 18, slot := 2, constantValue := 0 }]
  methods := #[k12m0, k12m1, k12m2, k12m3, k12m4, k12m5]
  instanceTypes := #[(.object "java/lang/Long"), .boolean, (.object "java/lang/String")]
  staticTypes := #[]
  resolved := Array.replicate 54 none
  statics := none }

def pool13 : Array CpInfo := pool [(2, .class_ 4), (1, u "java/lang/Object"), (0, u "<init>"), (0, u "()V"), (35, .class_ 44), (1, u "java/util/Objects"), (0, u "requireNonNull"), (0, u "(Ljava/lang/Object;)Ljava/lang/Object;")] 137

def k13m0 : Method := { name := "<init>", desc := "()V", sig := { parameters := [], returnType := none }, accessFlags := 2, code := none }
def k13c1 : Code := { maxStack := 2, maxLocals := 1, code := jdk_31_method_10_code, exceptionTable := #[], attributes := #[] }
def k13m1 : Method := { name := "requireNonNull", desc := "(Ljava/lang/Object;)Ljava/lang/Object;", sig := { parameters := [(.object "java/lang/Object")], returnType := some (.object "java/lang/Object") }, accessFlags := 9, code := some k13c1 }
/-- java/util/Objects -/
def k13 : Class := { plain "java/util/Objects" (some 0) with
  accessFlags := 49
  interfaces := #[]
  cf := some (fileOf pool13 42 #[] #[{ accessFlags := 2, nameIndex := 5, descriptorIndex := 6, attributes := #[] }, { accessFlags := 9, nameIndex := 45, descriptorIndex := 46, attributes := #[] }] 49 2 #[] #[])
  fields := #[]
  methods := #[k13m0, k13m1]
  instanceTypes := #[]
  staticTypes := #[]
  resolved := Array.replicate 184 none
  statics := none }

def pool14 : Array CpInfo := pool [(6, .class_ 8), (1, u "java/lang/Object"), (0, u "<init>"), (0, u "()V"), (1, .class_ 14), (1, u "java/lang/StringUTF16"), (31, u "$assertionsDisabled"), (0, u "Z"), (13, u "HI_BYTE_SHIFT"), (0, u "I"), (2, u "LO_BYTE_SHIFT"), (49, .methodref 12 116), (0, .nameAndType 117 118), (0, u "compress"), (0, u "([CI[BII)I"), (3, u "([CII)[B"), (138, u "coderFromArrayLen"), (0, u "([BI)B"), (106, .class_ 371), (1, u "java/lang/StringUTF16$LinesSpliterator"), (58, u "MAX_LENGTH"), (196, .class_ 628), (0, u "java/lang/StringUTF16$CodePointsSpliterator"), (0, .class_ 630), (0, u "java/lang/StringUTF16$CharsSpliterator")] 4

def k14m0 : Method := { name := "<init>", desc := "()V", sig := { parameters := [], returnType := none }, accessFlags := 0, code := none }
def k14c1 : Code := { maxStack := 2, maxLocals := 2, code := jdk_52_method_15_code, exceptionTable := #[], attributes := #[] }
def k14m1 : Method := { name := "coderFromArrayLen", desc := "([BI)B", sig := { parameters := [(.array .byte), .int], returnType := some .byte }, accessFlags := 8, code := some k14c1 }
def k14c2 : Code := { maxStack := 5, maxLocals := 6, code := jdk_52_method_16_code, exceptionTable := #[], attributes := #[] }
def k14m2 : Method := { name := "compress", desc := "([CII)[B", sig := { parameters := [(.array .char), .int, .int], returnType := some (.array .byte) }, accessFlags := 9, code := some k14c2 }
def k14c3 : Code := { maxStack := 3, maxLocals := 7, code := jdk_52_method_21_code, exceptionTable := #[], attributes := #[] }
def k14m3 : Method := { name := "compress", desc := "([CI[BII)I", sig := { parameters := [(.array .char), .int, (.array .byte), .int, .int], returnType := some .int }, accessFlags := 9, code := some k14c3 }
/-- java/lang/StringUTF16 -/
def k14 : Class := { plain "java/lang/StringUTF16" (some 0) with
  accessFlags := 48
  interfaces := #[]
  cf := some (fileOf pool14 12 #[.nestMembers #[627, 629, 369]] #[{ accessFlags := 0, nameIndex := 9, descriptorIndex := 10, attributes := #[] }, { accessFlags := 8, nameIndex := 261, descriptorIndex := 262, attributes := #[] }, { accessFlags := 9, nameIndex := 117, descriptorIndex := 122, attributes := #[] }, { accessFlags := 9, nameIndex := 117, descriptorIndex := 118, attributes := #[] }] 48 6 #[] #[{ accessFlags := 26, nameIndex := 61, descriptorIndex := 62, attributes := #[] }, { accessFlags := 26, nameIndex := 65, descriptorIndex := 62, attributes := #[] }, { accessFlags := 24, nameIndex := 430, descriptorIndex := 62, attributes := #[] }, { accessFlags := 4120, nameIndex := 46, descriptorIndex := 47, attributes := #[] }])
  fields := #[{ name := "HI_BYTE_SHIFT", type := .int, accessFlags := 26, slot := 0, constantValue := 0 }, { name := "LO_BYTE_SHIFT", type := .int, accessFlags := 26, slot := 1, constantValue := 0 }, { name := "MAX_LENGTH", type := .int, accessFlags := 24, slot := 2, constantValue := 0 }, { name := "$assertionsDisabled", type := .boolean, accessFlags := 4120, slot := 3, constantValue := 0 }]
  methods := #[k14m0, k14m1, k14m2, k14m3]
  instanceTypes := #[]
  staticTypes := #[.int, .int, .int, .boolean]
  resolved := Array.replicate 635 none
  statics := none }

def pool15 : Array CpInfo := pool [(2, .class_ 4), (1, u "java/lang/Object"), (0, u "<init>"), (0, u "()V"), (17, .class_ 26), (1, u "jdk/internal/util/Preconditions"), (28, .class_ 56), (0, u "jdk/internal/util/Preconditions$4"), (57, .class_ 115), (0, u "jdk/internal/util/Preconditions$1"), (7, u "SIOOBE_FORMATTER"), (0, u "Ljava/util/function/BiFunction;"), (0, .class_ 126), (0, u "jdk/internal/util/Preconditions$2"), (3, u "AIOOBE_FORMATTER"), (0, .class_ 132), (0, u "jdk/internal/util/Preconditions$3"), (3, u "IOOBE_FORMATTER")] 57

def k15m0 : Method := { name := "<init>", desc := "()V", sig := { parameters := [], returnType := none }, accessFlags := 1, code := none }
/-- jdk/internal/util/Preconditions -/
def k15 : Class := { plain "jdk/internal/util/Preconditions" (some 0) with
  accessFlags := 33
  interfaces := #[]
  cf := some (fileOf pool15 24 #[.nestMembers #[55, 131, 125, 114]] #[{ accessFlags := 1, nameIndex := 5, descriptorIndex := 6, attributes := #[] }] 33 2 #[] #[{ accessFlags := 25, nameIndex := 123, descriptorIndex := 124, attributes := #[] }, { accessFlags := 25, nameIndex := 130, descriptorIndex := 124, attributes := #[] }, { accessFlags := 25, nameIndex := 136, descriptorIndex := 124, attributes := #[] }])
  fields := #[{ name := "SIOOBE_FORMATTER", type := (.object "java/util/function/BiFunction"), accessFlags := 25, slot := 0, constantValue := 0 }, { name := "AIOOBE_FORMATTER", type := (.object "java/util/function/BiFunction"), accessFlags := 25, slot := 1, constantValue := 0 }, { name := "IOOBE_FORMATTER", type := (.object "java/util/function/BiFunction"), accessFlags := 25, slot := 2, constantValue := 0 }]
  methods := #[k15m0]
  instanceTypes := #[]
  staticTypes := #[(.object "java/util/function/BiFunction"), (.object "java/util/function/BiFunction"), (.object "java/util/function/BiFunction")]
  resolved := Array.replicate 194 none
  statics := some 2 }

def pool16 : Array CpInfo := pool [(9, u "<init>"), (6, .class_ 18), (1, u "java/lang/Object"), (0, u "()V"), (1, .class_ 23), (1, u "jdk/internal/util/ArraysSupport"), (0, u "LOG2_ARRAY_LONG_INDEX_SCALE"), (0, u "I"), (2, u "U"), (0, u "Ljdk/internal/misc/Unsafe;"), (8, u "BIG_ENDIAN"), (0, u "Z"), (8, u "LOG2_BYTE_BIT_SIZE"), (4, u "LOG2_ARRAY_INT_INDEX_SCALE"), (54, u "JLA"), (0, u "Ljdk/internal/access/JavaLangAccess;"), (11, u "LOG2_ARRAY_BOOLEAN_INDEX_SCALE"), (9, u "LOG2_ARRAY_BYTE_INDEX_SCALE"), (5, u "LOG2_ARRAY_CHAR_INDEX_SCALE"), (5, u "LOG2_ARRAY_SHORT_INDEX_SCALE"), (18, u "LOG2_ARRAY_FLOAT_INDEX_SCALE"), (24, u "LOG2_ARRAY_DOUBLE_INDEX_SCALE"), (89, u "T_BOOLEAN"), (2, u "T_CHAR"), (1, u "T_FLOAT"), (1, u "T_DOUBLE"), (1, u "T_BYTE"), (1, u "T_SHORT"), (1, u "T_INT"), (1, u "T_LONG"), (1, u "SOFT_MAX_ARRAY_LENGTH")] 83

def k16m0 : Method := { name := "<init>", desc := "()V", sig := { parameters := [], returnType := none }, accessFlags := 2, code := none }
/-- jdk/internal/util/ArraysSupport -/
def k16 : Class := { plain "jdk/internal/util/ArraysSupport" (some 0) with
  accessFlags := 33
  interfaces := #[]
  cf := some (fileOf pool16 21 #[] #[{ accessFlags := 2, nameIndex := 9, descriptorIndex := 19, attributes := #[] }] 33 16 #[] #[{ accessFlags := 24, nameIndex := 28, descriptorIndex := 29, attributes := #[] }, { accessFlags := 26, nameIndex := 38, descriptorIndex := 39, attributes := #[] }, { accessFlags := 25, nameIndex := 121, descriptorIndex := 25, attributes := #[] }, { accessFlags := 25, nameIndex := 131, descriptorIndex := 25, attributes := #[] }, { accessFlags := 25, nameIndex := 137, descriptorIndex := 25, attributes := #[] }, { accessFlags := 25, nameIndex := 143, descriptorIndex := 25, attributes := #[] }, { accessFlags := 25, nameIndex := 53, descriptorIndex := 25, attributes := #[] }, { accessFlags := 25, nameIndex := 24, descriptorIndex := 25, attributes := #[] }, { accessFlags := 25, nameIndex := 162, descriptorIndex := 25, attributes := #[] }, { accessFlags := 25, nameIndex := 187, descriptorIndex := 25, attributes := #[] }, { accessFlags := 26, nameIndex := 48, descriptorIndex := 25, attributes := #[] }, { accessFlags := 25, nameIndex := 277, descriptorIndex := 25, attributes := #[] }, { accessFlags := 25, nameIndex := 280, descriptorIndex := 25, attributes := #[] }, { accessFlags := 25, nameIndex := 282, descriptorIndex := 25, attributes := #[] }, { accessFlags := 25, nameIndex := 284, descriptorIndex := 25, attributes := #[] }, { accessFlags := 25, nameIndex := 286, descriptorIndex := 25, attributes := #[] }, { accessFlags := 25, nameIndex := 288, descriptorIndex := 25, attributes := #[] }, { accessFlags := 25, nameIndex := 290, descriptorIndex := 25, attributes := #[] }, { accessFlags := 25, nameIndex := 292, descriptorIndex := 25, attributes := #[] }, { accessFlags := 26, nameIndex := 108, descriptorIndex := 109, attributes := #[] }, { accessFlags := 25, nameIndex := 294, descriptorIndex := 25, attributes := #[] }])
  fields := #[{ name := "U", type := (.object "jdk/internal/misc/Unsafe"), accessFlags := 24, slot := 0, constantValue := 0 }, { name := "BIG_ENDIAN", type := .boolean, accessFlags := 26, slot := 1, constantValue := 0 }, { name := "LOG2_ARRAY_BOOLEAN_INDEX_SCALE", type := .int, accessFlags := 25, slot := 2, constantValue := 0 }, { name := "LOG2_ARRAY_BYTE_INDEX_SCALE", type := .int, accessFlags := 25, slot := 3, constantValue := 0 }, { name := "LOG2_ARRAY_CHAR_INDEX_SCALE", type := .int, accessFlags := 25, slot := 4, constantValue := 0 }, { name := "LOG2_ARRAY_SHORT_INDEX_SCALE", type := .int, accessFlags := 25, slot := 5, constantValue := 0 }, { name := "LOG2_ARRAY_INT_INDEX_SCALE", type := .int, accessFlags := 25, slot := 6, constantValue := 0 }, { name := "LOG2_ARRAY_LONG_INDEX_SCALE", type := .int, accessFlags := 25, slot := 7, constantValue := 0 }, { name := "LOG2_ARRAY_FLOAT_INDEX_SCALE", type := .int, accessFlags := 25, slot := 8, constantValue := 0 }, { name := "LOG2_ARRAY_DOUBLE_INDEX_SCALE", type := .int, accessFlags := 25, slot := 9, constantValue := 0 }, { name := "LOG2_BYTE_BIT_SIZE", type := .int, accessFlags := 26, slot := 10, constantValue := 0 }, { name := "T_BOOLEAN", type := .int, accessFlags := 25, slot := 11, constantValue := 0 }, { name := "T_CHAR", type := .int, accessFlags := 25, slot := 12, constantValue := 0 }, { name := "T_FLOAT", type := .int, accessFlags := 25, slot := 13, constantValue := 0 }, { name := "T_DOUBLE", type := .int, accessFlags := 25, slot := 14, constantValue := 0 }, { name := "T_BYTE", type := .int, accessFlags := 25, slot := 15, constantValue := 0 }, { name := "T_SHORT", type := .int, accessFlags := 25, slot := 16, constantValue := 0 }, { name := "T_INT", type := .int, accessFlags := 25, slot := 17, constantValue := 0 }, { name := "T_LONG", type := .int, accessFlags := 25, slot := 18, constantValue := 0 }, { name := "JLA", type := (.object "jdk/internal/access/JavaLangAccess"), accessFlags := 26, slot := 19, constantValue := 0 }, { name := "SOFT_MAX_ARRAY_LENGTH", type := .int, accessFlags := 25, slot := 20, constantValue := 0 }]
  methods := #[k16m0]
  instanceTypes := #[]
  staticTypes := #[(.object "jdk/internal/misc/Unsafe"), .boolean, .int, .int, .int, .int, .int, .int, .int, .int, .int, .int, .int, .int, .int, .int, .int, .int, .int, (.object "jdk/internal/access/JavaLangAccess"), .int]
  resolved := Array.replicate 378 none
  statics := none }

def pool17 : Array CpInfo := pool [(1, u "java/lang/Cloneable"), (0, .class_ 1), (0, u "java/lang/Object"), (0, .class_ 3)] 3

/-- java/lang/Cloneable -/
def k17 : Class := { plain "java/lang/Cloneable" (some 0) with
  accessFlags := 1537
  interfaces := #[]
  cf := some (fileOf pool17 2 #[] #[] 1537 4 #[] #[])
  fields := #[]
  methods := #[]
  instanceTypes := #[]
  staticTypes := #[]
  resolved := Array.replicate 8 none
  statics := none }

/-- the primitive byte -/
def k18 : Class := { plain "byte" none with kind := .primitive 'B', accessFlags := 0x411 }
/-- [B -/
def k19 : Class := { plain "[B" (some 0) with kind := .array 18 .byte, interfaces := #[17, 2], accessFlags := 1041 }

/-- the primitive char -/
def k20 : Class := { plain "char" none with kind := .primitive 'C', accessFlags := 0x411 }
/-- [C -/
def k21 : Class := { plain "[C" (some 0) with kind := .array 20 .char, interfaces := #[17, 2], accessFlags := 1041 }

/-- the primitive int -/
def k22 : Class := { plain "int" none with kind := .primitive 'I', accessFlags := 0x411 }
/-- [I -/
def k23 : Class := { plain "[I" (some 0) with kind := .array 22 .int, interfaces := #[17, 2], accessFlags := 1041 }

/-- [Ljava/lang/Long; -/
def k24 : Class := { plain "[Ljava/lang/Long;" (some 0) with kind := .array 10 (.object "java/lang/Long"), interfaces := #[17, 2], accessFlags := 1041 }

def heap : Heap := #[{ cls := 7, slots := #[.long 0, .int 1, .null, .int 0, .null, .int 0, .int 0], vm := .statics 7 },
  { cls := 11, slots := #[.ref 3, .null, .int 0], vm := .statics 11 },
  { cls := 15, slots := #[.null, .null, .null], vm := .statics 15 },
  { cls := 24, slots := #[.ref 4, .ref 5, .ref 6, .ref 7, .ref 8, .ref 9, .ref 10, .ref 11, .ref 12, .ref 13, .ref 14, .ref 15, .ref 16, .ref 17, .ref 18, .ref 19, .ref 20, .ref 21, .ref 22, .ref 23, .ref 24, .ref 25, .ref 26, .ref 27, .ref 28, .ref 29, .ref 30, .ref 31, .ref 32, .ref 33, .ref 34, .ref 35, .ref 36, .ref 37, .ref 38, .ref 39, .ref 40, .ref 41, .ref 42, .ref 43, .ref 44, .ref 45, .ref 46, .ref 47, .ref 48, .ref 49, .ref 50, .ref 51, .ref 52, .ref 53, .ref 54, .ref 55, .ref 56, .ref 57, .ref 58, .ref 59, .ref 60, .ref 61, .ref 62, .ref 63, .ref 64, .ref 65, .ref 66, .ref 67, .ref 68, .ref 69, .ref 70, .ref 71, .ref 72, .ref 73, .ref 74, .ref 75, .ref 76, .ref 77, .ref 78, .ref 79, .ref 80, .ref 81, .ref 82, .ref 83, .ref 84, .ref 85, .ref 86, .ref 87, .ref 88, .ref 89, .ref 90, .ref 91, .ref 92, .ref 93, .ref 94, .ref 95, .ref 96, .ref 97, .ref 98, .ref 99, .ref 100, .ref 101, .ref 102, .ref 103, .ref 104, .ref 105, .ref 106, .ref 107, .ref 108, .ref 109, .ref 110, .ref 111, .ref 112, .ref 113, .ref 114, .ref 115, .ref 116, .ref 117, .ref 118, .ref 119, .ref 120, .ref 121, .ref 122, .ref 123, .ref 124, .ref 125, .ref 126, .ref 127, .ref 128, .ref 129, .ref 130, .ref 131, .ref 132, .ref 133, .ref 134, .ref 135, .ref 136, .ref 137, .ref 138, .ref 139, .ref 140, .ref 141, .ref 142, .ref 143, .ref 144, .ref 145, .ref 146, .ref 147, .ref 148, .ref 149, .ref 150, .ref 151, .ref 152, .ref 153, .ref 154, .ref 155, .ref 156, .ref 157, .ref 158, .ref 159, .ref 160, .ref 161, .ref 162, .ref 163, .ref 164, .ref 165, .ref 166, .ref 167, .ref 168, .ref 169, .ref 170, .ref 171, .ref 172, .ref 173, .ref 174, .ref 175, .ref 176, .ref 177, .ref 178, .ref 179, .ref 180, .ref 181, .ref 182, .ref 183, .ref 184, .ref 185, .ref 186, .ref 187, .ref 188, .ref 189, .ref 190, .ref 191, .ref 192, .ref 193, .ref 194, .ref 195, .ref 196, .ref 197, .ref 198, .ref 199, .ref 200, .ref 201, .ref 202, .ref 203, .ref 204, .ref 205, .ref 206, .ref 207, .ref 208, .ref 209, .ref 210, .ref 211, .ref 212, .ref 213, .ref 214, .ref 215, .ref 216, .ref 217, .ref 218, .ref 219, .ref 220, .ref 221, .ref 222, .ref 223, .ref 224, .ref 225, .ref 226, .ref 227, .ref 228, .ref 229, .ref 230, .ref 231, .ref 232, .ref 233, .ref 234, .ref 235, .ref 236, .ref 237, .ref 238, .ref 239, .ref 240, .ref 241, .ref 242, .ref 243, .ref 244, .ref 245, .ref 246, .ref 247, .ref 248, .ref 249, .ref 250, .ref 251, .ref 252, .ref 253, .ref 254, .ref 255, .ref 256, .ref 257, .ref 258, .ref 259], vm := .none },
  { cls := 10, slots := #[.long (-128)], vm := .none },
  { cls := 10, slots := #[.long (-127)], vm := .none },
  { cls := 10, slots := #[.long (-126)], vm := .none },
  { cls := 10, slots := #[.long (-125)], vm := .none },
  { cls := 10, slots := #[.long (-124)], vm := .none },
  { cls := 10, slots := #[.long (-123)], vm := .none },
  { cls := 10, slots := #[.long (-122)], vm := .none },
  { cls := 10, slots := #[.long (-121)], vm := .none },
  { cls := 10, slots := #[.long (-120)], vm := .none },
  { cls := 10, slots := #[.long (-119)], vm := .none },
  { cls := 10, slots := #[.long (-118)], vm := .none },
  { cls := 10, slots := #[.long (-117)], vm := .none },
  { cls := 10, slots := #[.long (-116)], vm := .none },
  { cls := 10, slots := #[.long (-115)], vm := .none },
  { cls := 10, slots := #[.long (-114)], vm := .none },
  { cls := 10, slots := #[.long (-113)], vm := .none },
  { cls := 10, slots := #[.long (-112)], vm := .none },
  { cls := 10, slots := #[.long (-111)], vm := .none },
  { cls := 10, slots := #[.long (-110)], vm := .none },
  { cls := 10, slots := #[.long (-109)], vm := .none },
  { cls := 10, slots := #[.long (-108)], vm := .none },
  { cls := 10, slots := #[.long (-107)], vm := .none },
  { cls := 10, slots := #[.long (-106)], vm := .none },
  { cls := 10, slots := #[.long (-105)], vm := .none },
  { cls := 10, slots := #[.long (-104)], vm := .none },
  { cls := 10, slots := #[.long (-103)], vm := .none },
  { cls := 10, slots := #[.long (-102)], vm := .none },
  { cls := 10, slots := #[.long (-101)], vm := .none },
  { cls := 10, slots := #[.long (-100)], vm := .none },
  { cls := 10, slots := #[.long (-99)], vm := .none },
  { cls := 10, slots := #[.long (-98)], vm := .none },
  { cls := 10, slots := #[.long (-97)], vm := .none },
  { cls := 10, slots := #[.long (-96)], vm := .none },
  { cls := 10, slots := #[.long (-95)], vm := .none },
  { cls := 10, slots := #[.long (-94)], vm := .none },
  { cls := 10, slots := #[.long (-93)], vm := .none },
  { cls := 10, slots := #[.long (-92)], vm := .none },
  { cls := 10, slots := #[.long (-91)], vm := .none },
  { cls := 10, slots := #[.long (-90)], vm := .none },
  { cls := 10, slots := #[.long (-89)], vm := .none },
  { cls := 10, slots := #[.long (-88)], vm := .none },
  { cls := 10, slots := #[.long (-87)], vm := .none },
  { cls := 10, slots := #[.long (-86)], vm := .none },
  { cls := 10, slots := #[.long (-85)], vm := .none },
  { cls := 10, slots := #[.long (-84)], vm := .none },
  { cls := 10, slots := #[.long (-83)], vm := .none },
  { cls := 10, slots := #[.long (-82)], vm := .none },
  { cls := 10, slots := #[.long (-81)], vm := .none },
  { cls := 10, slots := #[.long (-80)], vm := .none },
  { cls := 10, slots := #[.long (-79)], vm := .none },
  { cls := 10, slots := #[.long (-78)], vm := .none },
  { cls := 10, slots := #[.long (-77)], vm := .none },
  { cls := 10, slots := #[.long (-76)], vm := .none },
  { cls := 10, slots := #[.long (-75)], vm := .none },
  { cls := 10, slots := #[.long (-74)], vm := .none },
  { cls := 10, slots := #[.long (-73)], vm := .none },
  { cls := 10, slots := #[.long (-72)], vm := .none },
  { cls := 10, slots := #[.long (-71)], vm := .none },
  { cls := 10, slots := #[.long (-70)], vm := .none },
  { cls := 10, slots := #[.long (-69)], vm := .none },
  { cls := 10, slots := #[.long (-68)], vm := .none },
  { cls := 10, slots := #[.long (-67)], vm := .none },
  { cls := 10, slots := #[.long (-66)], vm := .none },
  { cls := 10, slots := #[.long (-65)], vm := .none },
  { cls := 10, slots := #[.long (-64)], vm := .none },
  { cls := 10, slots := #[.long (-63)], vm := .none },
  { cls := 10, slots := #[.long (-62)], vm := .none },
  { cls := 10, slots := #[.long (-61)], vm := .none },
  { cls := 10, slots := #[.long (-60)], vm := .none },
  { cls := 10, slots := #[.long (-59)], vm := .none },
  { cls := 10, slots := #[.long (-58)], vm := .none },
  { cls := 10, slots := #[.long (-57)], vm := .none },
  { cls := 10, slots := #[.long (-56)], vm := .none },
  { cls := 10, slots := #[.long (-55)], vm := .none },
  { cls := 10, slots := #[.long (-54)], vm := .none },
  { cls := 10, slots := #[.long (-53)], vm := .none },
  { cls := 10, slots := #[.long (-52)], vm := .none },
  { cls := 10, slots := #[.long (-51)], vm := .none },
  { cls := 10, slots := #[.long (-50)], vm := .none },
  { cls := 10, slots := #[.long (-49)], vm := .none },
  { cls := 10, slots := #[.long (-48)], vm := .none },
  { cls := 10, slots := #[.long (-47)], vm := .none },
  { cls := 10, slots := #[.long (-46)], vm := .none },
  { cls := 10, slots := #[.long (-45)], vm := .none },
  { cls := 10, slots := #[.long (-44)], vm := .none },
  { cls := 10, slots := #[.long (-43)], vm := .none },
  { cls := 10, slots := #[.long (-42)], vm := .none },
  { cls := 10, slots := #[.long (-41)], vm := .none },
  { cls := 10, slots := #[.long (-40)], vm := .none },
  { cls := 10, slots := #[.long (-39)], vm := .none },
  { cls := 10, slots := #[.long (-38)], vm := .none },
  { cls := 10, slots := #[.long (-37)], vm := .none },
  { cls := 10, slots := #[.long (-36)], vm := .none },
  { cls := 10, slots := #[.long (-35)], vm := .none },
  { cls := 10, slots := #[.long (-34)], vm := .none },
  { cls := 10, slots := #[.long (-33)], vm := .none },
  { cls := 10, slots := #[.long (-32)], vm := .none },
  { cls := 10, slots := #[.long (-31)], vm := .none },
  { cls := 10, slots := #[.long (-30)], vm := .none },
  { cls := 10, slots := #[.long (-29)], vm := .none },
  { cls := 10, slots := #[.long (-28)], vm := .none },
  { cls := 10, slots := #[.long (-27)], vm := .none },
  { cls := 10, slots := #[.long (-26)], vm := .none },
  { cls := 10, slots := #[.long (-25)], vm := .none },
  { cls := 10, slots := #[.long (-24)], vm := .none },
  { cls := 10, slots := #[.long (-23)], vm := .none },
  { cls := 10, slots := #[.long (-22)], vm := .none },
  { cls := 10, slots := #[.long (-21)], vm := .none },
  { cls := 10, slots := #[.long (-20)], vm := .none },
  { cls := 10, slots := #[.long (-19)], vm := .none },
  { cls := 10, slots := #[.long (-18)], vm := .none },
  { cls := 10, slots := #[.long (-17)], vm := .none },
  { cls := 10, slots := #[.long (-16)], vm := .none },
  { cls := 10, slots := #[.long (-15)], vm := .none },
  { cls := 10, slots := #[.long (-14)], vm := .none },
  { cls := 10, slots := #[.long (-13)], vm := .none },
  { cls := 10, slots := #[.long (-12)], vm := .none },
  { cls := 10, slots := #[.long (-11)], vm := .none },
  { cls := 10, slots := #[.long (-10)], vm := .none },
  { cls := 10, slots := #[.long (-9)], vm := .none },
  { cls := 10, slots := #[.long (-8)], vm := .none },
  { cls := 10, slots := #[.long (-7)], vm := .none },
  { cls := 10, slots := #[.long (-6)], vm := .none },
  { cls := 10, slots := #[.long (-5)], vm := .none },
  { cls := 10, slots := #[.long (-4)], vm := .none },
  { cls := 10, slots := #[.long (-3)], vm := .none },
  { cls := 10, slots := #[.long (-2)], vm := .none },
  { cls := 10, slots := #[.long (-1)], vm := .none },
  { cls := 10, slots := #[.long (0)], vm := .none },
  { cls := 10, slots := #[.long (1)], vm := .none },
  { cls := 10, slots := #[.long (2)], vm := .none },
  { cls := 10, slots := #[.long (3)], vm := .none },
  { cls := 10, slots := #[.long (4)], vm := .none },
  { cls := 10, slots := #[.long (5)], vm := .none },
  { cls := 10, slots := #[.long (6)], vm := .none },
  { cls := 10, slots := #[.long (7)], vm := .none },
  { cls := 10, slots := #[.long (8)], vm := .none },
  { cls := 10, slots := #[.long (9)], vm := .none },
  { cls := 10, slots := #[.long (10)], vm := .none },
  { cls := 10, slots := #[.long (11)], vm := .none },
  { cls := 10, slots := #[.long (12)], vm := .none },
  { cls := 10, slots := #[.long (13)], vm := .none },
  { cls := 10, slots := #[.long (14)], vm := .none },
  { cls := 10, slots := #[.long (15)], vm := .none },
  { cls := 10, slots := #[.long (16)], vm := .none },
  { cls := 10, slots := #[.long (17)], vm := .none },
  { cls := 10, slots := #[.long (18)], vm := .none },
  { cls := 10, slots := #[.long (19)], vm := .none },
  { cls := 10, slots := #[.long (20)], vm := .none },
  { cls := 10, slots := #[.long (21)], vm := .none },
  { cls := 10, slots := #[.long (22)], vm := .none },
  { cls := 10, slots := #[.long (23)], vm := .none },
  { cls := 10, slots := #[.long (24)], vm := .none },
  { cls := 10, slots := #[.long (25)], vm := .none },
  { cls := 10, slots := #[.long (26)], vm := .none },
  { cls := 10, slots := #[.long (27)], vm := .none },
  { cls := 10, slots := #[.long (28)], vm := .none },
  { cls := 10, slots := #[.long (29)], vm := .none },
  { cls := 10, slots := #[.long (30)], vm := .none },
  { cls := 10, slots := #[.long (31)], vm := .none },
  { cls := 10, slots := #[.long (32)], vm := .none },
  { cls := 10, slots := #[.long (33)], vm := .none },
  { cls := 10, slots := #[.long (34)], vm := .none },
  { cls := 10, slots := #[.long (35)], vm := .none },
  { cls := 10, slots := #[.long (36)], vm := .none },
  { cls := 10, slots := #[.long (37)], vm := .none },
  { cls := 10, slots := #[.long (38)], vm := .none },
  { cls := 10, slots := #[.long (39)], vm := .none },
  { cls := 10, slots := #[.long (40)], vm := .none },
  { cls := 10, slots := #[.long (41)], vm := .none },
  { cls := 10, slots := #[.long (42)], vm := .none },
  { cls := 10, slots := #[.long (43)], vm := .none },
  { cls := 10, slots := #[.long (44)], vm := .none },
  { cls := 10, slots := #[.long (45)], vm := .none },
  { cls := 10, slots := #[.long (46)], vm := .none },
  { cls := 10, slots := #[.long (47)], vm := .none },
  { cls := 10, slots := #[.long (48)], vm := .none },
  { cls := 10, slots := #[.long (49)], vm := .none },
  { cls := 10, slots := #[.long (50)], vm := .none },
  { cls := 10, slots := #[.long (51)], vm := .none },
  { cls := 10, slots := #[.long (52)], vm := .none },
  { cls := 10, slots := #[.long (53)], vm := .none },
  { cls := 10, slots := #[.long (54)], vm := .none },
  { cls := 10, slots := #[.long (55)], vm := .none },
  { cls := 10, slots := #[.long (56)], vm := .none },
  { cls := 10, slots := #[.long (57)], vm := .none },
  { cls := 10, slots := #[.long (58)], vm := .none },
  { cls := 10, slots := #[.long (59)], vm := .none },
  { cls := 10, slots := #[.long (60)], vm := .none },
  { cls := 10, slots := #[.long (61)], vm := .none },
  { cls := 10, slots := #[.long (62)], vm := .none },
  { cls := 10, slots := #[.long (63)], vm := .none },
  { cls := 10, slots := #[.long (64)], vm := .none },
  { cls := 10, slots := #[.long (65)], vm := .none },
  { cls := 10, slots := #[.long (66)], vm := .none },
  { cls := 10, slots := #[.long (67)], vm := .none },
  { cls := 10, slots := #[.long (68)], vm := .none },
  { cls := 10, slots := #[.long (69)], vm := .none },
  { cls := 10, slots := #[.long (70)], vm := .none },
  { cls := 10, slots := #[.long (71)], vm := .none },
  { cls := 10, slots := #[.long (72)], vm := .none },
  { cls := 10, slots := #[.long (73)], vm := .none },
  { cls := 10, slots := #[.long (74)], vm := .none },
  { cls := 10, slots := #[.long (75)], vm := .none },
  { cls := 10, slots := #[.long (76)], vm := .none },
  { cls := 10, slots := #[.long (77)], vm := .none },
  { cls := 10, slots := #[.long (78)], vm := .none },
  { cls := 10, slots := #[.long (79)], vm := .none },
  { cls := 10, slots := #[.long (80)], vm := .none },
  { cls := 10, slots := #[.long (81)], vm := .none },
  { cls := 10, slots := #[.long (82)], vm := .none },
  { cls := 10, slots := #[.long (83)], vm := .none },
  { cls := 10, slots := #[.long (84)], vm := .none },
  { cls := 10, slots := #[.long (85)], vm := .none },
  { cls := 10, slots := #[.long (86)], vm := .none },
  { cls := 10, slots := #[.long (87)], vm := .none },
  { cls := 10, slots := #[.long (88)], vm := .none },
  { cls := 10, slots := #[.long (89)], vm := .none },
  { cls := 10, slots := #[.long (90)], vm := .none },
  { cls := 10, slots := #[.long (91)], vm := .none },
  { cls := 10, slots := #[.long (92)], vm := .none },
  { cls := 10, slots := #[.long (93)], vm := .none },
  { cls := 10, slots := #[.long (94)], vm := .none },
  { cls := 10, slots := #[.long (95)], vm := .none },
  { cls := 10, slots := #[.long (96)], vm := .none },
  { cls := 10, slots := #[.long (97)], vm := .none },
  { cls := 10, slots := #[.long (98)], vm := .none },
  { cls := 10, slots := #[.long (99)], vm := .none },
  { cls := 10, slots := #[.long (100)], vm := .none },
  { cls := 10, slots := #[.long (101)], vm := .none },
  { cls := 10, slots := #[.long (102)], vm := .none },
  { cls := 10, slots := #[.long (103)], vm := .none },
  { cls := 10, slots := #[.long (104)], vm := .none },
  { cls := 10, slots := #[.long (105)], vm := .none },
  { cls := 10, slots := #[.long (106)], vm := .none },
  { cls := 10, slots := #[.long (107)], vm := .none },
  { cls := 10, slots := #[.long (108)], vm := .none },
  { cls := 10, slots := #[.long (109)], vm := .none },
  { cls := 10, slots := #[.long (110)], vm := .none },
  { cls := 10, slots := #[.long (111)], vm := .none },
  { cls := 10, slots := #[.long (112)], vm := .none },
  { cls := 10, slots := #[.long (113)], vm := .none },
  { cls := 10, slots := #[.long (114)], vm := .none },
  { cls := 10, slots := #[.long (115)], vm := .none },
  { cls := 10, slots := #[.long (116)], vm := .none },
  { cls := 10, slots := #[.long (117)], vm := .none },
  { cls := 10, slots := #[.long (118)], vm := .none },
  { cls := 10, slots := #[.long (119)], vm := .none },
  { cls := 10, slots := #[.long (120)], vm := .none },
  { cls := 10, slots := #[.long (121)], vm := .none },
  { cls := 10, slots := #[.long (122)], vm := .none },
  { cls := 10, slots := #[.long (123)], vm := .none },
  { cls := 10, slots := #[.long (124)], vm := .none },
  { cls := 10, slots := #[.long (125)], vm := .none },
  { cls := 10, slots := #[.long (126)], vm := .none },
  { cls := 10, slots := #[.long (127)], vm := .none }]
def classes : Array Class := #[k0, k1, k2, k3, k4, k5, k6, k7, k8, k9, k10, k11, k12, k13, k14, k15, k16, k17, k18, k19, k20, k21, k22, k23, k24]
def interned : List (Array UInt16 × Addr) := []
def slotsUsed : Nat := 525
def theMethod : MethodId := ⟨1, 2⟩
def args0 : Array Value := #[.long 5, .int 6, .int 7, .int 8, .int 0]
def aboutOver (below : List Frame) : State where
  vm := { classes := classes, interned := interned.toArray }
  heap := heap
  slotsUsed := slotsUsed
  threads := #[{ frames := .invoking theMethod args0 :: below }]
def below0 : List Frame := [.native { method := ⟨0, 0⟩, args := #[] }]
def about1 : State := aboutOver below0
def p0 : Program := .bare "" "" ""
def e0 : Env := launch0.env 0 0 0
theorem w_frames : about1.frames = Frame.invoking theMethod args0 :: below0 := rfl
set_option maxRecDepth 65536 in
theorem w_args : argsFit about1.vm theMethod args0 = true := by decide +kernel
set_option maxRecDepth 65536 in
theorem w_heap : heapFits about1 = true := by decide +kernel
set_option maxRecDepth 65536 in
theorem w_runnable : about1.curStatus? = some .runnable := by decide +kernel
set_option maxRecDepth 65536 in
theorem w_alone : about1.alone = true := by decide +kernel
set_option maxRecDepth 65536 in
theorem w_named : about1.methodNamed? x = some theMethod := by decide +kernel
set_option maxRecDepth 65536 in
theorem w_hears : about1.hears theMethod below0 = true := by decide +kernel
set_option maxRecDepth 65536 in
theorem w_ripe : about1.ripe theMethod args0 below0 = true := by decide +kernel
theorem w_running : about1.status = .running := rfl
set_option maxRecDepth 65536 in
theorem w_room : about1.hasRoom e0.platform room_1 = true :=
  launch0.hasRoom_least _ room_1 (by decide +kernel) (by decide +kernel) (by decide +kernel) (by decide +kernel) (by decide +kernel) (by decide +kernel)
theorem allAtoms_all (ts : List Jvm.Cond) (a : Array Jvm.Value) (st : Jvm.State) : (allAtoms ts).before a st = ts.all (fun c => c.before a st) := by
  induction ts with
  | nil => rfl
  | cons c t ih =>
    show (Jvm.Cond.and c (allAtoms t)).before a st = _
    rw [Jvm.Cond.before_and, ih, List.all_cons]
def words1 : List Jvm.Cond := Jvm.Cond.code x code maxLocals ret :: tables_1
/-- a 'code' word, met by the world's own term for the bytes: nothing is compared byte by byte -/
theorem code_word {y : MethodName} {bytes : ByteArray} {mx : Nat} {rt : Option FieldType} {a : Array Value} {s : State} {m : MethodId} {meth : Method} {c : Code} (h1 : s.methodNamed? y = some m) (h2 : s.vm.method? m = some meth) (h3 : meth.code = some c) (h4 : c.code = bytes)
    (h5 : (c.maxLocals == mx && c.exceptionTable.isEmpty && decide (c.maxStack ≤ mostOperands) && decide (meth.sig.returnType = rt) && !meth.locks && decide (parseMethodDescriptor y.desc = some meth.sig)) = true) : (Jvm.Cond.code y bytes mx rt).before a s = true := by
  simp only [Bool.and_eq_true, beq_iff_eq, Bool.not_eq_true', decide_eq_true_eq] at h5
  obtain ⟨⟨⟨⟨⟨g1, g2⟩, g3⟩, g4⟩, g5⟩, g6⟩ := h5
  simp [Cond.before, Cond.holds, Cond.value, h1, h2, h3, h4, g1, g2, g3, g4, g5, g6]
def isCode : Jvm.Cond → Bool
  | .code _ _ _ _ => true
  | _ => false
theorem all_split {L : List Jvm.Cond} {P : Jvm.Cond → Bool} (h1 : L.all (fun c => isCode c || P c) = true) (h2 : ∀ c ∈ L.filter isCode, P c = true) : L.all P = true := by
  refine List.all_eq_true.mpr fun c hc => ?_
  have h := List.all_eq_true.mp h1 c hc
  rcases Bool.eq_false_or_eq_true (isCode c) with hi | hi
  · exact h2 c (List.mem_filter.mpr ⟨hc, hi⟩)
  · simpa [hi] using h
set_option maxRecDepth 65536 in
theorem w_c0 : (Jvm.Cond.code x code maxLocals ret).before args0 about1 = true := code_word (m := ⟨1, 2⟩) (meth := k1m2) (c := k1c2) (by decide +kernel) rfl rfl rfl (by decide +kernel)
set_option maxRecDepth 65536 in
theorem w_c1 : (Jvm.Cond.code ({ cls := "com/example/chitragupta/chitragupta/model/JobResultFailedPinLaw", name := "text", desc := "(IIII)Ljava/lang/String;" } : Jvm.MethodName) method_2_code (8 : Nat) (Option.some (Jvm.ClassFile.FieldType.object "java/lang/String"))).before args0 about1 = true := code_word (m := ⟨1, 1⟩) (meth := k1m1) (c := k1c1) (by decide +kernel) rfl rfl rfl (by decide +kernel)
set_option maxRecDepth 65536 in
theorem w_c2 : (Jvm.Cond.code ({ cls := "java/lang/String", name := "valueOf", desc := "(C)Ljava/lang/String;" } : Jvm.MethodName) jdk_42_method_139_code (1 : Nat) (Option.some (Jvm.ClassFile.FieldType.object "java/lang/String"))).before args0 about1 = true := code_word (m := ⟨7, 4⟩) (meth := k7m4) (c := k7c4) (by decide +kernel) rfl rfl rfl (by decide +kernel)
set_option maxRecDepth 65536 in
theorem w_c3 : (Jvm.Cond.code ({ cls := "java/lang/StringLatin1", name := "canEncode", desc := "(C)Z" } : Jvm.MethodName) jdk_43_method_3_code (1 : Nat) (Option.some Jvm.ClassFile.FieldType.boolean)).before args0 about1 = true := code_word (m := ⟨8, 1⟩) (meth := k8m1) (c := k8c1) (by decide +kernel) rfl rfl rfl (by decide +kernel)
set_option maxRecDepth 65536 in
theorem w_c4 : (Jvm.Cond.code ({ cls := "java/lang/StringLatin1", name := "toBytes", desc := "(C)[B" } : Jvm.MethodName) jdk_43_method_46_code (1 : Nat) (Option.some (Jvm.ClassFile.FieldType.array Jvm.ClassFile.FieldType.byte))).before args0 about1 = true := code_word (m := ⟨8, 2⟩) (meth := k8m2) (c := k8c2) (by decide +kernel) rfl rfl rfl (by decide +kernel)
set_option maxRecDepth 65536 in
theorem w_c5 : (Jvm.Cond.code ({ cls := "java/lang/String", name := "<init>", desc := "([BB)V" } : Jvm.MethodName) jdk_42_method_151_code (3 : Nat) (Option.none : Option Jvm.ClassFile.FieldType)).before args0 about1 = true := code_word (m := ⟨7, 6⟩) (meth := k7m6) (c := k7c6) (by decide +kernel) rfl rfl rfl (by decide +kernel)
set_option maxRecDepth 65536 in
theorem w_c6 : (Jvm.Cond.code ({ cls := "java/lang/Object", name := "<init>", desc := "()V" } : Jvm.MethodName) object_method_1_code (1 : Nat) (Option.none : Option Jvm.ClassFile.FieldType)).before args0 about1 = true := code_word (m := ⟨0, 0⟩) (meth := k0m0) (c := k0c0) (by decide +kernel) rfl rfl rfl (by decide +kernel)
set_option maxRecDepth 65536 in
theorem w_c7 : (Jvm.Cond.code ({ cls := "java/lang/Long", name := "valueOf", desc := "(J)Ljava/lang/Long;" } : Jvm.MethodName) jdk_35_method_24_code (3 : Nat) (Option.some (Jvm.ClassFile.FieldType.object "java/lang/Long"))).before args0 about1 = true := code_word (m := ⟨10, 0⟩) (meth := k10m0) (c := k10c0) (by decide +kernel) rfl rfl rfl (by decide +kernel)
set_option maxRecDepth 65536 in
theorem w_c8 : (Jvm.Cond.code ({ cls := "com/example/chitragupta/chitragupta/model/JobResult", name := "failed", desc := "(Ljava/lang/Long;Ljava/lang/String;)Lcom/example/chitragupta/chitragupta/model/JobResult;" } : Jvm.MethodName) prog_27_method_3_code (2 : Nat) (Option.some (Jvm.ClassFile.FieldType.object "com/example/chitragupta/chitragupta/model/JobResult"))).before args0 about1 = true := code_word (m := ⟨12, 1⟩) (meth := k12m1) (c := k12c1) (by decide +kernel) rfl rfl rfl (by decide +kernel)
set_option maxRecDepth 65536 in
theorem w_c9 : (Jvm.Cond.code ({ cls := "java/util/Objects", name := "requireNonNull", desc := "(Ljava/lang/Object;)Ljava/lang/Object;" } : Jvm.MethodName) jdk_31_method_10_code (1 : Nat) (Option.some (Jvm.ClassFile.FieldType.object "java/lang/Object"))).before args0 about1 = true := code_word (m := ⟨13, 1⟩) (meth := k13m1) (c := k13c1) (by decide +kernel) rfl rfl rfl (by decide +kernel)
set_option maxRecDepth 65536 in
theorem w_c10 : (Jvm.Cond.code ({ cls := "com/example/chitragupta/chitragupta/model/JobResult", name := "<init>", desc := "(Ljava/lang/Long;ZLjava/lang/String;)V" } : Jvm.MethodName) prog_27_method_1_code (4 : Nat) (Option.none : Option Jvm.ClassFile.FieldType)).before args0 about1 = true := code_word (m := ⟨12, 0⟩) (meth := k12m0) (c := k12c0) (by decide +kernel) rfl rfl rfl (by decide +kernel)
set_option maxRecDepth 65536 in
theorem w_c11 : (Jvm.Cond.code ({ cls := "com/example/chitragupta/chitragupta/model/JobResult", name := "hasSucceeded", desc := "()Z" } : Jvm.MethodName) prog_27_method_5_code (1 : Nat) (Option.some Jvm.ClassFile.FieldType.boolean)).before args0 about1 = true := code_word (m := ⟨12, 2⟩) (meth := k12m2) (c := k12c2) (by decide +kernel) rfl rfl rfl (by decide +kernel)
set_option maxRecDepth 65536 in
theorem w_c12 : (Jvm.Cond.code ({ cls := "com/example/chitragupta/chitragupta/model/JobResult", name := "isConflict", desc := "()Z" } : Jvm.MethodName) prog_27_method_6_code (1 : Nat) (Option.some Jvm.ClassFile.FieldType.boolean)).before args0 about1 = true := code_word (m := ⟨12, 3⟩) (meth := k12m3) (c := k12c3) (by decide +kernel) rfl rfl rfl (by decide +kernel)
set_option maxRecDepth 65536 in
theorem w_c13 : (Jvm.Cond.code ({ cls := "com/example/chitragupta/chitragupta/model/JobResult", name := "getTicketId", desc := "()Ljava/lang/Long;" } : Jvm.MethodName) prog_27_method_7_code (1 : Nat) (Option.some (Jvm.ClassFile.FieldType.object "java/lang/Long"))).before args0 about1 = true := code_word (m := ⟨12, 4⟩) (meth := k12m4) (c := k12c4) (by decide +kernel) rfl rfl rfl (by decide +kernel)
set_option maxRecDepth 65536 in
theorem w_c14 : (Jvm.Cond.code ({ cls := "java/lang/Long", name := "longValue", desc := "()J" } : Jvm.MethodName) jdk_35_method_31_code (1 : Nat) (Option.some Jvm.ClassFile.FieldType.long)).before args0 about1 = true := code_word (m := ⟨10, 2⟩) (meth := k10m2) (c := k10c2) (by decide +kernel) rfl rfl rfl (by decide +kernel)
set_option maxRecDepth 65536 in
theorem w_c15 : (Jvm.Cond.code ({ cls := "com/example/chitragupta/chitragupta/model/JobResult", name := "getDetails", desc := "()Ljava/lang/String;" } : Jvm.MethodName) prog_27_method_8_code (1 : Nat) (Option.some (Jvm.ClassFile.FieldType.object "java/lang/String"))).before args0 about1 = true := code_word (m := ⟨12, 5⟩) (meth := k12m5) (c := k12c5) (by decide +kernel) rfl rfl rfl (by decide +kernel)
set_option maxRecDepth 65536 in
theorem w_c16 : (Jvm.Cond.code ({ cls := "java/lang/String", name := "length", desc := "()I" } : Jvm.MethodName) jdk_42_method_54_code (1 : Nat) (Option.some Jvm.ClassFile.FieldType.int)).before args0 about1 = true := code_word (m := ⟨7, 2⟩) (meth := k7m2) (c := k7c2) (by decide +kernel) rfl rfl rfl (by decide +kernel)
set_option maxRecDepth 65536 in
theorem w_c17 : (Jvm.Cond.code ({ cls := "java/lang/String", name := "coder", desc := "()B" } : Jvm.MethodName) jdk_42_method_152_code (1 : Nat) (Option.some Jvm.ClassFile.FieldType.byte)).before args0 about1 = true := code_word (m := ⟨7, 7⟩) (meth := k7m7) (c := k7c7) (by decide +kernel) rfl rfl rfl (by decide +kernel)
set_option maxRecDepth 65536 in
theorem w_c18 : (Jvm.Cond.code ({ cls := "java/lang/String", name := "equals", desc := "(Ljava/lang/Object;)Z" } : Jvm.MethodName) jdk_42_method_66_code (3 : Nat) (Option.some Jvm.ClassFile.FieldType.boolean)).before args0 about1 = true := code_word (m := ⟨7, 3⟩) (meth := k7m3) (c := k7c3) (by decide +kernel) rfl rfl rfl (by decide +kernel)
set_option maxRecDepth 65536 in
theorem w_c19 : (Jvm.Cond.code ({ cls := "java/lang/String", name := "<init>", desc := "([C)V" } : Jvm.MethodName) jdk_42_method_3_code (2 : Nat) (Option.none : Option Jvm.ClassFile.FieldType)).before args0 about1 = true := code_word (m := ⟨7, 1⟩) (meth := k7m1) (c := k7c1) (by decide +kernel) rfl rfl rfl (by decide +kernel)
set_option maxRecDepth 65536 in
theorem w_c20 : (Jvm.Cond.code ({ cls := "java/lang/String", name := "<init>", desc := "([CIILjava/lang/Void;)V" } : Jvm.MethodName) jdk_42_method_149_code (6 : Nat) (Option.none : Option Jvm.ClassFile.FieldType)).before args0 about1 = true := code_word (m := ⟨7, 5⟩) (meth := k7m5) (c := k7c5) (by decide +kernel) rfl rfl rfl (by decide +kernel)
set_option maxRecDepth 65536 in
theorem w_c21 : (Jvm.Cond.code ({ cls := "java/lang/StringUTF16", name := "compress", desc := "([CII)[B" } : Jvm.MethodName) jdk_52_method_16_code (6 : Nat) (Option.some (Jvm.ClassFile.FieldType.array Jvm.ClassFile.FieldType.byte))).before args0 about1 = true := code_word (m := ⟨14, 2⟩) (meth := k14m2) (c := k14c2) (by decide +kernel) rfl rfl rfl (by decide +kernel)
set_option maxRecDepth 65536 in
theorem w_c22 : (Jvm.Cond.code ({ cls := "java/lang/StringUTF16", name := "compress", desc := "([CI[BII)I" } : Jvm.MethodName) jdk_52_method_21_code (7 : Nat) (Option.some Jvm.ClassFile.FieldType.int)).before args0 about1 = true := code_word (m := ⟨14, 3⟩) (meth := k14m3) (c := k14c3) (by decide +kernel) rfl rfl rfl (by decide +kernel)
set_option maxRecDepth 65536 in
theorem w_c23 : (Jvm.Cond.code ({ cls := "java/lang/StringUTF16", name := "coderFromArrayLen", desc := "([BI)B" } : Jvm.MethodName) jdk_52_method_15_code (2 : Nat) (Option.some Jvm.ClassFile.FieldType.byte)).before args0 about1 = true := code_word (m := ⟨14, 1⟩) (meth := k14m1) (c := k14c1) (by decide +kernel) rfl rfl rfl (by decide +kernel)
set_option maxRecDepth 65536 in
theorem w_c24 : (Jvm.Cond.code ({ cls := "java/lang/Long", name := "<init>", desc := "(J)V" } : Jvm.MethodName) jdk_35_method_26_code (3 : Nat) (Option.none : Option Jvm.ClassFile.FieldType)).before args0 about1 = true := code_word (m := ⟨10, 1⟩) (meth := k10m1) (c := k10c1) (by decide +kernel) rfl rfl rfl (by decide +kernel)
set_option maxRecDepth 65536 in
theorem w_c25 : (Jvm.Cond.code ({ cls := "java/lang/Number", name := "<init>", desc := "()V" } : Jvm.MethodName) jdk_18_method_1_code (1 : Nat) (Option.none : Option Jvm.ClassFile.FieldType)).before args0 about1 = true := code_word (m := ⟨9, 0⟩) (meth := k9m0) (c := k9c0) (by decide +kernel) rfl rfl rfl (by decide +kernel)
def codes1 : List Jvm.Cond := [Jvm.Cond.code x code maxLocals ret, Jvm.Cond.code ({ cls := "com/example/chitragupta/chitragupta/model/JobResultFailedPinLaw", name := "text", desc := "(IIII)Ljava/lang/String;" } : Jvm.MethodName) method_2_code (8 : Nat) (Option.some (Jvm.ClassFile.FieldType.object "java/lang/String")), Jvm.Cond.code ({ cls := "java/lang/String", name := "valueOf", desc := "(C)Ljava/lang/String;" } : Jvm.MethodName) jdk_42_method_139_code (1 : Nat) (Option.some (Jvm.ClassFile.FieldType.object "java/lang/String")), Jvm.Cond.code ({ cls := "java/lang/StringLatin1", name := "canEncode", desc := "(C)Z" } : Jvm.MethodName) jdk_43_method_3_code (1 : Nat) (Option.some Jvm.ClassFile.FieldType.boolean), Jvm.Cond.code ({ cls := "java/lang/StringLatin1", name := "toBytes", desc := "(C)[B" } : Jvm.MethodName) jdk_43_method_46_code (1 : Nat) (Option.some (Jvm.ClassFile.FieldType.array Jvm.ClassFile.FieldType.byte)), Jvm.Cond.code ({ cls := "java/lang/String", name := "<init>", desc := "([BB)V" } : Jvm.MethodName) jdk_42_method_151_code (3 : Nat) (Option.none : Option Jvm.ClassFile.FieldType), Jvm.Cond.code ({ cls := "java/lang/Object", name := "<init>", desc := "()V" } : Jvm.MethodName) object_method_1_code (1 : Nat) (Option.none : Option Jvm.ClassFile.FieldType), Jvm.Cond.code ({ cls := "java/lang/Long", name := "valueOf", desc := "(J)Ljava/lang/Long;" } : Jvm.MethodName) jdk_35_method_24_code (3 : Nat) (Option.some (Jvm.ClassFile.FieldType.object "java/lang/Long")), Jvm.Cond.code ({ cls := "com/example/chitragupta/chitragupta/model/JobResult", name := "failed", desc := "(Ljava/lang/Long;Ljava/lang/String;)Lcom/example/chitragupta/chitragupta/model/JobResult;" } : Jvm.MethodName) prog_27_method_3_code (2 : Nat) (Option.some (Jvm.ClassFile.FieldType.object "com/example/chitragupta/chitragupta/model/JobResult")), Jvm.Cond.code ({ cls := "java/util/Objects", name := "requireNonNull", desc := "(Ljava/lang/Object;)Ljava/lang/Object;" } : Jvm.MethodName) jdk_31_method_10_code (1 : Nat) (Option.some (Jvm.ClassFile.FieldType.object "java/lang/Object")), Jvm.Cond.code ({ cls := "com/example/chitragupta/chitragupta/model/JobResult", name := "<init>", desc := "(Ljava/lang/Long;ZLjava/lang/String;)V" } : Jvm.MethodName) prog_27_method_1_code (4 : Nat) (Option.none : Option Jvm.ClassFile.FieldType), Jvm.Cond.code ({ cls := "com/example/chitragupta/chitragupta/model/JobResult", name := "hasSucceeded", desc := "()Z" } : Jvm.MethodName) prog_27_method_5_code (1 : Nat) (Option.some Jvm.ClassFile.FieldType.boolean), Jvm.Cond.code ({ cls := "com/example/chitragupta/chitragupta/model/JobResult", name := "isConflict", desc := "()Z" } : Jvm.MethodName) prog_27_method_6_code (1 : Nat) (Option.some Jvm.ClassFile.FieldType.boolean), Jvm.Cond.code ({ cls := "com/example/chitragupta/chitragupta/model/JobResult", name := "getTicketId", desc := "()Ljava/lang/Long;" } : Jvm.MethodName) prog_27_method_7_code (1 : Nat) (Option.some (Jvm.ClassFile.FieldType.object "java/lang/Long")), Jvm.Cond.code ({ cls := "java/lang/Long", name := "longValue", desc := "()J" } : Jvm.MethodName) jdk_35_method_31_code (1 : Nat) (Option.some Jvm.ClassFile.FieldType.long), Jvm.Cond.code ({ cls := "com/example/chitragupta/chitragupta/model/JobResult", name := "getDetails", desc := "()Ljava/lang/String;" } : Jvm.MethodName) prog_27_method_8_code (1 : Nat) (Option.some (Jvm.ClassFile.FieldType.object "java/lang/String")), Jvm.Cond.code ({ cls := "java/lang/String", name := "length", desc := "()I" } : Jvm.MethodName) jdk_42_method_54_code (1 : Nat) (Option.some Jvm.ClassFile.FieldType.int), Jvm.Cond.code ({ cls := "java/lang/String", name := "coder", desc := "()B" } : Jvm.MethodName) jdk_42_method_152_code (1 : Nat) (Option.some Jvm.ClassFile.FieldType.byte), Jvm.Cond.code ({ cls := "java/lang/String", name := "equals", desc := "(Ljava/lang/Object;)Z" } : Jvm.MethodName) jdk_42_method_66_code (3 : Nat) (Option.some Jvm.ClassFile.FieldType.boolean), Jvm.Cond.code ({ cls := "java/lang/String", name := "<init>", desc := "([C)V" } : Jvm.MethodName) jdk_42_method_3_code (2 : Nat) (Option.none : Option Jvm.ClassFile.FieldType), Jvm.Cond.code ({ cls := "java/lang/String", name := "<init>", desc := "([CIILjava/lang/Void;)V" } : Jvm.MethodName) jdk_42_method_149_code (6 : Nat) (Option.none : Option Jvm.ClassFile.FieldType), Jvm.Cond.code ({ cls := "java/lang/StringUTF16", name := "compress", desc := "([CII)[B" } : Jvm.MethodName) jdk_52_method_16_code (6 : Nat) (Option.some (Jvm.ClassFile.FieldType.array Jvm.ClassFile.FieldType.byte)), Jvm.Cond.code ({ cls := "java/lang/StringUTF16", name := "compress", desc := "([CI[BII)I" } : Jvm.MethodName) jdk_52_method_21_code (7 : Nat) (Option.some Jvm.ClassFile.FieldType.int), Jvm.Cond.code ({ cls := "java/lang/StringUTF16", name := "coderFromArrayLen", desc := "([BI)B" } : Jvm.MethodName) jdk_52_method_15_code (2 : Nat) (Option.some Jvm.ClassFile.FieldType.byte), Jvm.Cond.code ({ cls := "java/lang/Long", name := "<init>", desc := "(J)V" } : Jvm.MethodName) jdk_35_method_26_code (3 : Nat) (Option.none : Option Jvm.ClassFile.FieldType), Jvm.Cond.code ({ cls := "java/lang/Number", name := "<init>", desc := "()V" } : Jvm.MethodName) jdk_18_method_1_code (1 : Nat) (Option.none : Option Jvm.ClassFile.FieldType)]
set_option maxRecDepth 65536 in
theorem codes_eq : words1.filter isCode = codes1 := rfl
theorem w_codes : ∀ c ∈ words1.filter isCode, c.before args0 about1 = true := by
  rw [codes_eq]
  intro c hc
  simp only [codes1, List.mem_cons, List.not_mem_nil, or_false] at hc
  rcases hc with rfl | rfl | rfl | rfl | rfl | rfl | rfl | rfl | rfl | rfl | rfl | rfl | rfl | rfl | rfl | rfl | rfl | rfl | rfl | rfl | rfl | rfl | rfl | rfl | rfl | rfl
  · exact w_c0
  · exact w_c1
  · exact w_c2
  · exact w_c3
  · exact w_c4
  · exact w_c5
  · exact w_c6
  · exact w_c7
  · exact w_c8
  · exact w_c9
  · exact w_c10
  · exact w_c11
  · exact w_c12
  · exact w_c13
  · exact w_c14
  · exact w_c15
  · exact w_c16
  · exact w_c17
  · exact w_c18
  · exact w_c19
  · exact w_c20
  · exact w_c21
  · exact w_c22
  · exact w_c23
  · exact w_c24
  · exact w_c25
set_option maxRecDepth 65536 in
theorem w_t1 : (words1.take 24).all (fun c => isCode c || c.before args0 about1) = true := by decide +kernel
set_option maxRecDepth 65536 in
theorem w_t2 : ((words1.drop 24).take 24).all (fun c => isCode c || c.before args0 about1) = true := by decide +kernel
set_option maxRecDepth 65536 in
theorem w_t3 : (((words1.drop 24).drop 24).take 24).all (fun c => isCode c || c.before args0 about1) = true := by decide +kernel
set_option maxRecDepth 65536 in
theorem w_t4 : ((((words1.drop 24).drop 24).drop 24).take 24).all (fun c => isCode c || c.before args0 about1) = true := by decide +kernel
set_option maxRecDepth 65536 in
theorem w_t5 : (((((words1.drop 24).drop 24).drop 24).drop 24).take 24).all (fun c => isCode c || c.before args0 about1) = true := by decide +kernel
set_option maxRecDepth 65536 in
theorem w_t6 : (((((words1.drop 24).drop 24).drop 24).drop 24).drop 24).all (fun c => isCode c || c.before args0 about1) = true := by decide +kernel
theorem w_tables : (allAtoms (Jvm.Cond.code x code maxLocals ret :: tables_1)).before args0 about1 = true := by
  rw [allAtoms_all]
  show words1.all (fun c => c.before args0 about1) = true
  refine all_split ?_ w_codes
  rw [← List.take_append_drop 24 words1, List.all_append, w_t1, ← List.take_append_drop 24 (words1.drop 24), List.all_append, w_t2, ← List.take_append_drop 24 ((words1.drop 24).drop 24), List.all_append, w_t3, ← List.take_append_drop 24 (((words1.drop 24).drop 24).drop 24), List.all_append, w_t4, ← List.take_append_drop 24 ((((words1.drop 24).drop 24).drop 24).drop 24), List.all_append, w_t5, w_t6]
  rfl
set_option maxRecDepth 65536 in
theorem w_rest : rest_1_c.before args0 about1 = true := by decide +kernel
set_option maxRecDepth 65536 in
theorem w_case : (Jvm.Cond.and given_1 narrow_1).before args0 about1 = true := by decide +kernel
set_option maxRecDepth 65536 in
theorem w_consts : constsHeld consts_1 about1 := Jvm.Lit.constsHeldB_iff.mp (by decide +kernel)
theorem w_applies : (headSpec (Jvm.Cond.code x code maxLocals ret :: tables_1) room_1).applies x e0.platform about1 = true :=
  (Spec.applies_iff w_frames).mpr ⟨w_running, w_runnable, w_alone, w_named, w_hears, w_ripe, w_room, w_tables⟩
theorem atStart : AtStart classFile x code maxLocals ret World_1 tables_1 room_1 Calls_1 rest_1 Pre_1 launch0 p0 e0 about1 theMethod args0 below0 :=
  ⟨lists_1, trivial, launch0.admits_env _ _ _, launch0.least_env, fairChoices_fair.cas, fairChoices_fair.clock, w_frames, w_args, w_heap, w_applies, ⟨w_consts, trivial⟩, w_rest, w_case⟩
end start1
theorem witness_1 : WitnessClaimed_1 := ⟨start1.p0, start1.e0, start1.about1, start1.theMethod, start1.args0, start1.below0, start1.atStart⟩
end Jvm.Pilot.@@N@@
