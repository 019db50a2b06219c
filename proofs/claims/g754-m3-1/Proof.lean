import JvmDerived
import JvmDerived.Pilot.@@N@@Statement
import JvmDerived.Pilot.@@N@@Code
set_option linter.unusedVariables false
set_option linter.unusedSimpArgs false
/- laws to paste: Road.eqW, Road.codOf (cut by pick.py; bodies as the Statement names them) -/
namespace Jvm.Pilot.@@N@@
namespace StrChars
open Jvm Sem ClassFile Op Lib Jvm.Stand Jvm.Free.XT Jvm.Free.ALB Jvm.Free.JM Jvm.Free
open Jvm.Lib.Cold (StaticIs)
/-- a char array whose places are chars -/
def Ch (a : Addr) (A : Cell) (U : State) : Prop := Arr .char a A U ∧ Typed .char A
theorem Ch.mv {a : Addr} {A : Cell} {U U' : State} (h : Ch a A U) (hal : U.vm.Alike U'.vm) (hh : U'.heap = U.heap) : Ch a A U' := ⟨h.1.mv hal hh, h.2⟩
theorem Ch.keep {a : Addr} {A : Cell} {U U' : State} (h : Ch a A U) (hal : U.vm.Alike U'.vm) (hk : U'.heap[a]? = some A) : Ch a A U' := ⟨h.1.keep hal hk, h.2⟩
/-- what place i of a char[]'s cell holds -/
def cv (A : Cell) (i : Nat) : Int32 := match A.slots[i]? with | some (.int x) => x | _ => 0
theorem Ch.get {a : Addr} {A : Cell} {U : State} (h : Ch a A U) {i : Nat} (hi : i < A.slots.size) : A.slots[i]? = some (.int (cv A i)) := by
  have e := Array.getElem?_eq_getElem hi
  have f := h.2 i _ e
  unfold cv; rw [e]
  generalize A.slots[i] = v at f
  cases v <;> simp [fits] at f ⊢
/-- the byte that i2b leaves of a char -/
def lo8 (x : Int32) : Int32 := x.toInt8.toInt32
theorem fits_lo8 (y : Int32) : fits .byte (.int (lo8 y)) = true := by
  have h1 := y.toInt8.le_toInt
  have h2 := y.toInt8.toInt_lt
  simp only [lo8, fits, Bool.and_eq_true, decide_eq_true_eq, Int32.le_iff_toInt_le, Int8.toInt_toInt32, show (-128 : Int32).toInt = -128 from by decide, show (127 : Int32).toInt = 127 from by decide]
  omega
/-- A' is A but that each place j of lo .. hi - 1 holds f j -/
def Laid (A A' : Cell) (lo hi : Nat) (f : Nat → Value) : Prop := A'.cls = A.cls ∧ A'.vm = A.vm ∧ A'.slots.size = A.slots.size ∧ ∀ i, A'.slots[i]? = if lo ≤ i ∧ i < hi then some (f i) else A.slots[i]?
theorem Laid.zero (A : Cell) (lo : Nat) (f : Nat → Value) : Laid A A lo (lo + 0) f := ⟨rfl, rfl, rfl, fun i => by rw [if_neg (by omega)]⟩
theorem Laid.step {A Ak : Cell} {lo k : Nat} {f : Nat → Value} {v : Value} (h : Laid A Ak lo k f) (hlo : lo ≤ k) (hk : k < Ak.slots.size) (hv : v = f k) : Laid A (Ak.setSlot k v) lo (k + 1) f := by
  refine ⟨h.1, h.2.1, by simpa [Cell.setSlot] using h.2.2.1, fun i => ?_⟩
  by_cases e : k = i
  · subst e; rw [Cell.slots_setSlot_self v hk, if_pos (by omega), hv]
  · rw [Cell.slots_setSlot_ne v e, h.2.2.2 i]
    by_cases q : lo ≤ i ∧ i < k
    · rw [if_pos q, if_pos (by omega)]
    · rw [if_neg q, if_neg (by omega)]
def U16 : String := "java/lang/StringUTF16"
namespace Cmp5
def yN : MethodName := ⟨"java/lang/StringUTF16", "compress", "([CI[BII)I"⟩
abbrev yB : ByteArray := jdk_52_method_21_code
theorem d0 : decode yB 0 = .ok (.iconst 0, 1) := by decide +kernel
theorem d1 : decode yB 1 = .ok (.istore 5, 2) := by decide +kernel
theorem d3 : decode yB 3 = .ok (.iload 5, 2) := by decide +kernel
theorem d5 : decode yB 5 = .ok (.iload 4, 2) := by decide +kernel
theorem d7 : decode yB 7 = .ok (.if_icmp (.ge) 37, 3) := by decide +kernel
theorem d10 : decode yB 10 = .ok (.aload_n 0, 1) := by decide +kernel
theorem d11 : decode yB 11 = .ok (.iload_n 1, 1) := by decide +kernel
theorem d12 : decode yB 12 = .ok (.caload, 1) := by decide +kernel
theorem d13 : decode yB 13 = .ok (.istore 6, 2) := by decide +kernel
theorem d15 : decode yB 15 = .ok (.iload 6, 2) := by decide +kernel
theorem d17 : decode yB 17 = .ok (.sipush 255, 3) := by decide +kernel
theorem d20 : decode yB 20 = .ok (.if_icmp (.le) 6, 3) := by decide +kernel
theorem d26 : decode yB 26 = .ok (.aload_n 2, 1) := by decide +kernel
theorem d27 : decode yB 27 = .ok (.iload_n 3, 1) := by decide +kernel
theorem d28 : decode yB 28 = .ok (.iload 6, 2) := by decide +kernel
theorem d30 : decode yB 30 = .ok (.i2b, 1) := by decide +kernel
theorem d31 : decode yB 31 = .ok (.bastore, 1) := by decide +kernel
theorem d32 : decode yB 32 = .ok (.iinc 1 1, 3) := by decide +kernel
theorem d35 : decode yB 35 = .ok (.iinc 3 1, 3) := by decide +kernel
theorem d38 : decode yB 38 = .ok (.iinc 5 1, 3) := by decide +kernel
theorem d41 : decode yB 41 = .ok (.goto (-38), 3) := by decide +kernel
theorem d44 : decode yB 44 = .ok (.iload 4, 2) := by decide +kernel
theorem d46 : decode yB 46 = .ok (.ireturn, 1) := by decide +kernel
def site : List Cond := []
def tab : Cond := tabOf yN yB 7 (some .int) site
def P (b : Addr) (A : Cell) (d : Addr) (B : Cell) (o q len : Nat) (args : Array Value) (s : State) : Prop := args = #[.ref b, .int (Int32.ofNat o), .ref d, .int (Int32.ofNat q), .int (Int32.ofNat len)] ∧ Ch b A s ∧ Arr .byte d B s ∧ b ≠ d ∧ o + len ≤ A.slots.size ∧ q + len ≤ B.slots.size ∧ ∀ i, i < len → ¬ 255 < cv A (o + i)
def E (b : Addr) (A : Cell) (d : Addr) (B : Cell) (o q len : Nat) (r : Option Value) (s u : State) : Prop := r = some (.int (Int32.ofNat len)) ∧ ∃ B', Put d B' s u ∧ Laid B B' q (q + len) (fun j => Value.int (lo8 (cv A (o + (j - q)))))
/-- no char of the range above 255: len; the places written hold each char's low byte -/
theorem law (l : Launch) (b : Addr) (A : Cell) (d : Addr) (B : Cell) (o q len : Nat) : Law l yN 5 5 0 0 yB 7 (some .int) site (P b A d B o q len) (E b A d B o q len) (copyLocs d q len) 0 0 := by
  refine Law.of_walk (plainFor_of_name (by decide +kernel)) (by decide +kernel) (by decide +kernel) (by decide) (fun _ _ h => by rw [h.1]; rfl) (fun _ U U' hal hh h => ⟨h.1, h.2.1.mv hal hh, h.2.2.1.mv hal hh, h.2.2.2⟩) (fun r U U' V V' h1 hal h2 h => ⟨h.1, h.2.elim fun B' q => ⟨B', q.1.mv h1 h2, q.2⟩⟩) ?_
  intro p e s m args below meth c s₁ X0 hexec hbytes hml hret hlk hnm hown hh0 W hP
  obtain ⟨rfl, hA, hB, hne, l1, l2, hp⟩ := hP
  have c1 : Steps p.tables e below (s₁.setTop (entryFrame m #[.ref b, .int (Int32.ofNat o), .ref d, .int (Int32.ofNat q), .int (Int32.ofNat len)] 7)) (s₁.setTop (mkF m 0 #[.val (.ref b), .val (.int (Int32.ofNat o)), .val (.ref d), .val (.int (Int32.ofNat q)), .val (.int (Int32.ofNat len)), .unset, .unset] [])) := entry rfl
  have hA0 := hA.1.mv X0.warmed.alike hh0
  have hB0 := hB.mv X0.warmed.alike hh0
  have a31 := hA.1.2.2.2
  have c2 : Steps p.tables e below (s₁.setTop (entryFrame m #[.ref b, .int (Int32.ofNat o), .ref d, .int (Int32.ofNat q), .int (Int32.ofNat len)] 7)) (s₁.setTop (mkF m 3 #[.val (.ref b), .val (.int (Int32.ofNat o)), .val (.ref d), .val (.int (Int32.ofNat q)), .val (.int (Int32.ofNat len)), .val (.int 0), .unset] [])) := c1.trans (by
    refine iconstV X0.here hexec rfl 0 (hb hbytes d0) (by decide) ?_
    refine XS.istore X0.here hexec rfl (hb hbytes d1) rfl rfl ?_
    exact Steps.refl _)
  have loop : ∀ (r i : Nat), i + r = len → ∀ (z : Slot), (z = .unset ∨ ∃ w, z = .val w ∧ w.category = 1) → ∀ (Tl : State) (Bk : Cell), Stand p l e { frames := 0, locals := 0, cells := 0, slots := 0 } s m #[.ref b, .int (Int32.ofNat o), .ref d, .int (Int32.ofNat q), .int (Int32.ofNat len)] below meth c Tl ([] ++ copyLocs d q i) 0 0 → Put d Bk s₁ Tl → Laid B Bk q (q + i) (fun j => Value.int (lo8 (cv A (o + (j - q))))) →
      Steps p.tables e below (s₁.setTop (entryFrame m #[.ref b, .int (Int32.ofNat o), .ref d, .int (Int32.ofNat q), .int (Int32.ofNat len)] 7)) (Tl.setTop (mkF m 3 #[.val (.ref b), .val (.int (Int32.ofNat (o + i))), .val (.ref d), .val (.int (Int32.ofNat (q + i))), .val (.int (Int32.ofNat len)), .val (.int (Int32.ofNat i)), z] [])) → ∃ (T' : State) (B' : Cell) (z' : Slot), Stand p l e { frames := 0, locals := 0, cells := 0, slots := 0 } s m #[.ref b, .int (Int32.ofNat o), .ref d, .int (Int32.ofNat q), .int (Int32.ofNat len)] below meth c T' ([] ++ copyLocs d q len) 0 0 ∧ Put d B' s₁ T' ∧ Laid B B' q (q + len) (fun j => Value.int (lo8 (cv A (o + (j - q))))) ∧
      Steps p.tables e below (s₁.setTop (entryFrame m #[.ref b, .int (Int32.ofNat o), .ref d, .int (Int32.ofNat q), .int (Int32.ofNat len)] 7)) (T'.setTop (mkF m 3 #[.val (.ref b), .val (.int (Int32.ofNat (o + len))), .val (.ref d), .val (.int (Int32.ofNat (q + len))), .val (.int (Int32.ofNat len)), .val (.int (Int32.ofNat len)), z'] [])) := by
    intro r
    induction r with
    | zero =>
      intro i hi z hz Tl Bk Xl pl fl cl
      have hil : i = len := by omega
      rw [hil] at Xl fl cl
      exact ⟨Tl, Bk, z, Xl, pl, fl, cl⟩
    | succ r ih =>
      intro i hi z hz Tl Bk Xl pl fl cl
      have all := X0.warmed.alike.symm.trans Xl.warmed.alike
      have hAl := hA0.keep all (pl.other hne hA0.1)
      have hBk := hB0.like all pl.1 fl.1 fl.2.1 fl.2.2.1
      have hlt : q + i < Bk.slots.size := by rw [fl.2.2.1]; omega
      have c3 : Steps p.tables e below (s₁.setTop (entryFrame m #[.ref b, .int (Int32.ofNat o), .ref d, .int (Int32.ofNat q), .int (Int32.ofNat len)] 7)) (Tl.setTop (mkF m 12 #[.val (.ref b), .val (.int (Int32.ofNat (o + i))), .val (.ref d), .val (.int (Int32.ofNat (q + i))), .val (.int (Int32.ofNat len)), .val (.int (Int32.ofNat i)), z] [.int (Int32.ofNat (o + i)), .ref b])) := cl.trans (by
        refine XS.iload Xl.here hexec rfl (hb hbytes d3) rfl ?_
        refine XS.iload Xl.here hexec rfl (hb hbytes d5) rfl ?_
        refine XS.icmpNo Xl.here hexec rfl (hb hbytes d7) rfl (ii_ge_f (lt32 (by omega) (by omega))) ?_
        refine XS.aloadN Xl.here hexec rfl (hb hbytes d10) rfl rfl ?_
        refine XS.iloadN Xl.here hexec rfl (hb hbytes d11) rfl ?_
        exact Steps.refl _)
      have c4 : Steps p.tables e below (s₁.setTop (entryFrame m #[.ref b, .int (Int32.ofNat o), .ref d, .int (Int32.ofNat q), .int (Int32.ofNat len)] 7)) (Tl.setTop (mkF m 13 #[.val (.ref b), .val (.int (Int32.ofNat (o + i))), .val (.ref d), .val (.int (Int32.ofNat (q + i))), .val (.int (Int32.ofNat len)), .val (.int (Int32.ofNat i)), z] [.int (cv A (o + i))])) := c3.trans (by
        refine Xl.aget hexec hAl rfl (hA.get (i := o + i) (by omega)) rfl rfl (hb hbytes d12) ?_
        exact Steps.refl _)
      have c5 : Steps p.tables e below (s₁.setTop (entryFrame m #[.ref b, .int (Int32.ofNat o), .ref d, .int (Int32.ofNat q), .int (Int32.ofNat len)] 7)) (Tl.setTop (mkF m 15 #[.val (.ref b), .val (.int (Int32.ofNat (o + i))), .val (.ref d), .val (.int (Int32.ofNat (q + i))), .val (.int (Int32.ofNat len)), .val (.int (Int32.ofNat i)), .val (.int (cv A (o + i)))] [])) := c4.trans (by
        refine XS.istoreS Xl.here hexec rfl (hb hbytes d13) rfl rfl hz ?_
        exact Steps.refl _)
      have c6 : Steps p.tables e below (s₁.setTop (entryFrame m #[.ref b, .int (Int32.ofNat o), .ref d, .int (Int32.ofNat q), .int (Int32.ofNat len)] 7)) (Tl.setTop (mkF m 31 #[.val (.ref b), .val (.int (Int32.ofNat (o + i))), .val (.ref d), .val (.int (Int32.ofNat (q + i))), .val (.int (Int32.ofNat len)), .val (.int (Int32.ofNat i)), .val (.int (cv A (o + i)))] [.int (lo8 (cv A (o + i))), .int (Int32.ofNat (q + i)), .ref d])) := c5.trans (by
        refine XS.iload Xl.here hexec rfl (hb hbytes d15) rfl ?_
        refine sipushV Xl.here hexec rfl 255 (hb hbytes d17) (by decide) ?_
        refine XS.icmpYes Xl.here hexec rfl (pc0 := 20) rfl (hb hbytes d20) rfl (ii_le_t (hp i (by omega))) (by decide) rfl ?_
        refine XS.aloadN Xl.here hexec rfl (hb hbytes d26) rfl rfl ?_
        refine XS.iloadN Xl.here hexec rfl (hb hbytes d27) rfl ?_
        refine XS.iload Xl.here hexec rfl (hb hbytes d28) rfl ?_
        refine i2b Xl.here hexec rfl (hb hbytes d30) rfl ?_
        exact Steps.refl _)
      obtain ⟨T7, X7, p7, st7⟩ := Xl.aput hexec hBk rfl hlt rfl (fits_lo8 (cv A (o + i))) (g := (mkF m 31 #[.val (.ref b), .val (.int (Int32.ofNat (o + i))), .val (.ref d), .val (.int (Int32.ofNat (q + i))), .val (.int (Int32.ofNat len)), .val (.int (Int32.ofNat i)), .val (.int (cv A (o + i)))] [.int (lo8 (cv A (o + i))), .int (Int32.ofNat (q + i)), .ref d])) rfl (rest := []) rfl (hb hbytes d31)
      have c8 : Steps p.tables e below (s₁.setTop (entryFrame m #[.ref b, .int (Int32.ofNat o), .ref d, .int (Int32.ofNat q), .int (Int32.ofNat len)] 7)) (T7.setTop (mkF m 32 #[.val (.ref b), .val (.int (Int32.ofNat (o + i))), .val (.ref d), .val (.int (Int32.ofNat (q + i))), .val (.int (Int32.ofNat len)), .val (.int (Int32.ofNat i)), .val (.int (cv A (o + i)))] [])) := c6.trans (st7 _ (Steps.refl _))
      have c9 : Steps p.tables e below (s₁.setTop (entryFrame m #[.ref b, .int (Int32.ofNat o), .ref d, .int (Int32.ofNat q), .int (Int32.ofNat len)] 7)) (T7.setTop (mkF m 3 #[.val (.ref b), .val (.int (Int32.ofNat (o + i) + 1)), .val (.ref d), .val (.int (Int32.ofNat (q + i) + 1)), .val (.int (Int32.ofNat len)), .val (.int (Int32.ofNat i + 1)), .val (.int (cv A (o + i)))] [])) := c8.trans (by
        refine iincV X7.here hexec rfl 1 (hb hbytes d32) (by decide) rfl rfl ?_
        refine iincV X7.here hexec rfl 1 (hb hbytes d35) (by decide) rfl rfl ?_
        refine iincV X7.here hexec rfl 1 (hb hbytes d38) (by decide) rfl rfl ?_
        refine XS.goto X7.here hexec rfl (pc0 := 41) rfl (hb hbytes d41) (by decide) rfl ?_
        exact Steps.refl _)
      have c10 : Steps p.tables e below (s₁.setTop (entryFrame m #[.ref b, .int (Int32.ofNat o), .ref d, .int (Int32.ofNat q), .int (Int32.ofNat len)] 7)) (T7.setTop (mkF m 3 #[.val (.ref b), .val (.int (Int32.ofNat (o + (i + 1)))), .val (.ref d), .val (.int (Int32.ofNat (q + (i + 1)))), .val (.int (Int32.ofNat len)), .val (.int (Int32.ofNat (i + 1))), .val (.int (cv A (o + i)))] [])) := by
        have := c9
        rw [succ32, succ32, succ32] at this
        exact this
      exact ih (i + 1) (by omega) _ (Or.inr ⟨_, rfl, rfl⟩) T7 _ (by rw [copyLocs_step, ← List.append_assoc]; exact X7) (pl.trans p7) (fl.step (by omega) hlt (by simp)) c10
  obtain ⟨T9, B9, z9, X9, p9, f9, g9⟩ := loop len 0 (by omega) .unset (Or.inl rfl) s₁ B (by simpa [copyLocs] using X0) ⟨hB0.1, fun _ _ => rfl, rfl⟩ (Laid.zero _ _ _) c2
  have c11 : Steps p.tables e below (s₁.setTop (entryFrame m #[.ref b, .int (Int32.ofNat o), .ref d, .int (Int32.ofNat q), .int (Int32.ofNat len)] 7)) (T9.setTop (mkF m 46 #[.val (.ref b), .val (.int (Int32.ofNat (o + len))), .val (.ref d), .val (.int (Int32.ofNat (q + len))), .val (.int (Int32.ofNat len)), .val (.int (Int32.ofNat len)), z9] [.int (Int32.ofNat len)])) := g9.trans (by
    refine XS.iload X9.here hexec rfl (hb hbytes d3) rfl ?_
    refine XS.iload X9.here hexec rfl (hb hbytes d5) rfl ?_
    refine XS.icmpYes X9.here hexec rfl (pc0 := 7) rfl (hb hbytes d7) rfl (ii_ge_t (nlt32 (by omega) (Nat.le_refl _))) (by decide) rfl ?_
    refine XS.iload X9.here hexec rfl (hb hbytes d44) rfl ?_
    exact Steps.refl _)
  exact ⟨T9, some (.int (Int32.ofNat len)), _, _, _, X9, by simp, rfl, rfl, (fun h => by cases h), ⟨rfl, B9, p9.from hh0, f9⟩, fun fs hl => c11.trans (X9.ireturnOut hexec hret rfl (Or.inl rfl) (hb hbytes d46) hl)⟩
end Cmp5
namespace Cmp3
def yN : MethodName := ⟨"java/lang/StringUTF16", "compress", "([CII)[B"⟩
abbrev yB : ByteArray := jdk_52_method_16_code
theorem d0 : decode yB 0 = .ok (.iload_n 2, 1) := by decide +kernel
theorem d1 : decode yB 1 = .ok (.newarray .byte, 2) := by decide +kernel
theorem d3 : decode yB 3 = .ok (.astore_n 3, 1) := by decide +kernel
theorem d4 : decode yB 4 = .ok (.aload_n 0, 1) := by decide +kernel
theorem d5 : decode yB 5 = .ok (.iload_n 1, 1) := by decide +kernel
theorem d6 : decode yB 6 = .ok (.aload_n 3, 1) := by decide +kernel
theorem d7 : decode yB 7 = .ok (.iconst 0, 1) := by decide +kernel
theorem d8 : decode yB 8 = .ok (.iload_n 2, 1) := by decide +kernel
theorem d9 : decode yB 9 = .ok (.invokestatic 115, 3) := by decide +kernel
theorem d12 : decode yB 12 = .ok (.istore 4, 2) := by decide +kernel
theorem d14 : decode yB 14 = .ok (.iload 4, 2) := by decide +kernel
theorem d16 : decode yB 16 = .ok (.iload_n 2, 1) := by decide +kernel
theorem d17 : decode yB 17 = .ok (.if_icmp (.eq) 40, 3) := by decide +kernel
theorem d57 : decode yB 57 = .ok (.aload_n 3, 1) := by decide +kernel
theorem d58 : decode yB 58 = .ok (.areturn, 1) := by decide +kernel
def site : List Cond := [.arrayClass .byte, Cmp5.tab] ++ staticW U16 115 Cmp5.yN
def tab : Cond := tabOf yN yB 6 (some (.array .byte)) site
def P (b : Addr) (A : Cell) (o len : Nat) (args : Array Value) (s : State) : Prop := args = #[.ref b, .int (Int32.ofNat o), .int (Int32.ofNat len)] ∧ Ch b A s ∧ o + len ≤ A.slots.size ∧ len ≤ 536870912 ∧ ∀ i, i < len → ¬ 255 < cv A (o + i)
def E (b : Addr) (A : Cell) (o len : Nat) (r : Option Value) (s u : State) : Prop := NewArr .byte "[B" len (fun j => .int (lo8 (cv A (o + j)))) r s u ∧ u.heap.size = s.heap.size + 1
/-- no char of the range above 255: a new byte[] of their low bytes -/
theorem law (l : Launch) (b : Addr) (A : Cell) (o len : Nat) : Law l yN 3 3 1 18 yB 6 (some (.array .byte)) site (P b A o len) (E b A o len) [] 1 len := by
  refine Law.of_walk (plainFor_of_name (by decide +kernel)) (by decide +kernel) (by decide +kernel) (by decide) (fun _ _ h => by rw [h.1]; rfl) (fun _ U U' hal hh h => ⟨h.1, h.2.1.mv hal hh, h.2.2⟩) (fun r U U' V V' h1 hal h2 h => ⟨NewArr.mv r U U' V V' h1 hal h2 h.1, by rw [h1, h2]; exact h.2⟩) ?_
  intro p e s m args below meth c s₁ X0 hexec hbytes hml hret hlk hnm hown hh0 W hP
  obtain ⟨rfl, hA, l1, l2, hp⟩ := hP
  have a31 := hA.1.2.2.2
  have c1 : Steps p.tables e below (s₁.setTop (entryFrame m #[.ref b, .int (Int32.ofNat o), .int (Int32.ofNat len)] 6)) (s₁.setTop (mkF m 0 #[.val (.ref b), .val (.int (Int32.ofNat o)), .val (.int (Int32.ofNat len)), .unset, .unset, .unset] [])) := entry rfl
  have c2 : Steps p.tables e below (s₁.setTop (entryFrame m #[.ref b, .int (Int32.ofNat o), .int (Int32.ofNat len)] 6)) (s₁.setTop (mkF m 1 #[.val (.ref b), .val (.int (Int32.ofNat o)), .val (.int (Int32.ofNat len)), .unset, .unset, .unset] [.int (Int32.ofNat len)])) := c1.trans (by
    refine XS.iloadN X0.here hexec rfl (hb hbytes d0) rfl ?_
    exact Steps.refl _)
  obtain ⟨T3, B3, X3, ba3, bs3, bv3, bh3, bf3, st3⟩ := X0.anew hexec (atype := .byte) (wk W (.arrayClass .byte)) rfl (by show len * 1 ≤ _; omega) (by omega) (g := (mkF m 1 #[.val (.ref b), .val (.int (Int32.ofNat o)), .val (.int (Int32.ofNat len)), .unset, .unset, .unset] [.int (Int32.ofNat len)])) rfl (hb hbytes d1) (rest := []) rfl (Nat.le_refl _) (by show 0 + len ≤ len; omega)
  rw [hh0] at ba3 st3
  have kp3 : XT.Kept s T3 := (XT.Kept.of_eq hh0).push bh3
  have hA3 := hA.keep X3.warmed.alike (kp3 _ _ hA.1.1)
  have hne : b ≠ s.heap.size := hA.1.ne
  have c4 : Steps p.tables e below (s₁.setTop (entryFrame m #[.ref b, .int (Int32.ofNat o), .int (Int32.ofNat len)] 6)) (T3.setTop (mkF m 3 #[.val (.ref b), .val (.int (Int32.ofNat o)), .val (.int (Int32.ofNat len)), .unset, .unset, .unset] [.ref s.heap.size])) := c2.trans (st3 _ (Steps.refl _))
  have c5 : Steps p.tables e below (s₁.setTop (entryFrame m #[.ref b, .int (Int32.ofNat o), .int (Int32.ofNat len)] 6)) (T3.setTop (mkF m 9 #[.val (.ref b), .val (.int (Int32.ofNat o)), .val (.int (Int32.ofNat len)), .val (.ref s.heap.size), .unset, .unset] [.int (Int32.ofNat len), .int 0, .ref s.heap.size, .int (Int32.ofNat o), .ref b])) := c4.trans (by
    refine XS.astoreN X3.here hexec rfl (hb hbytes d3) rfl rfl rfl ?_
    refine XS.aloadN X3.here hexec rfl (hb hbytes d4) rfl rfl ?_
    refine XS.iloadN X3.here hexec rfl (hb hbytes d5) rfl ?_
    refine XS.aloadN X3.here hexec rfl (hb hbytes d6) rfl rfl ?_
    refine iconstV X3.here hexec rfl 0 (hb hbytes d7) (by decide) ?_
    refine XS.iloadN X3.here hexec rfl (hb hbytes d8) rfl ?_
    exact Steps.refl _)
  obtain ⟨v6, T6, X6, E6, g6⟩ := X3.callS hexec (Cmp5.law l b A s.heap.size B3 o 0 len) hown (wks W (staticW U16 115 Cmp5.yN)) (wk W Cmp5.tab) (W := 0) (Nat.le_of_ble_eq_true rfl) (Nat.le_of_ble_eq_true rfl) (Nat.le_refl _) (by show 0 + len + 0 ≤ len; omega) (g := (mkF m 9 #[.val (.ref b), .val (.int (Int32.ofNat o)), .val (.int (Int32.ofNat len)), .val (.ref s.heap.size), .unset, .unset] [.int (Int32.ofNat len), .int (Int32.ofNat 0), .ref s.heap.size, .int (Int32.ofNat o), .ref b])) rfl (by rw [hml]; rfl) c5 (argsL := [.ref b, .int (Int32.ofNat o), .ref s.heap.size, .int (Int32.ofNat 0), .int (Int32.ofNat len)]) (rest := []) rfl rfl (by show 2 * 0 + 0 ≤ _; decide) (hb hbytes d9) (⟨rfl, hA3, ba3, hne, l1, by rw [bs3]; simp, hp⟩)
  obtain ⟨rfl, B6, p6, f6⟩ := E6
  have c7 : Steps p.tables e below (s₁.setTop (entryFrame m #[.ref b, .int (Int32.ofNat o), .int (Int32.ofNat len)] 6)) (T6.setTop (mkF m 12 #[.val (.ref b), .val (.int (Int32.ofNat o)), .val (.int (Int32.ofNat len)), .val (.ref s.heap.size), .unset, .unset] [.int (Int32.ofNat len)])) := g6
  have c8 : Steps p.tables e below (s₁.setTop (entryFrame m #[.ref b, .int (Int32.ofNat o), .int (Int32.ofNat len)] 6)) (T6.setTop (mkF m 58 #[.val (.ref b), .val (.int (Int32.ofNat o)), .val (.int (Int32.ofNat len)), .val (.ref s.heap.size), .val (.int (Int32.ofNat len)), .unset] [.ref s.heap.size])) := c7.trans (by
    refine XS.istore X6.here hexec rfl (hb hbytes d12) rfl rfl ?_
    refine XS.iload X6.here hexec rfl (hb hbytes d14) rfl ?_
    refine XS.iloadN X6.here hexec rfl (hb hbytes d16) rfl ?_
    refine XS.icmpYes X6.here hexec rfl (pc0 := 17) rfl (hb hbytes d17) rfl (ii_eq_t rfl) (by decide) rfl ?_
    refine XS.aloadN X6.here hexec rfl (hb hbytes d57) rfl rfl ?_
    exact Steps.refl _)
  have X8 := X6.wide (L' := []) (cells' := 1) (slots' := len) (fun x hx hlt => by
    simp only [List.nil_append, copyLocs, List.mem_map, List.mem_range] at hx
    obtain ⟨i, -, rfl⟩ := hx
    exact absurd hlt (Nat.lt_irrefl _)) (Nat.le_refl _) (by omega)
  exact ⟨T6, some (.ref s.heap.size), _, _, _, X8, rfl, rfl, rfl, (fun h => by cases h), ⟨⟨rfl, B6, ba3.like (X3.warmed.alike.symm.trans X6.warmed.alike) p6.1 f6.1 f6.2.1 f6.2.2.1, f6.2.1.trans bv3, by rw [X6.warmed.alike.findClass, f6.1]; exact bf3, by rw [f6.2.2.1, bs3]; simp, fun j hj => by rw [f6.2.2.2 j, if_pos (by omega)]; rfl, kp3.put p6 (Nat.le_refl _)⟩, by rw [p6.2.2, bh3, hh0]; simp⟩, fun fs hl => c8.trans (X8.areturnOut hexec rfl hret rfl (hb hbytes d58) hl)⟩
end Cmp3
namespace CodL
def yN : MethodName := ⟨"java/lang/StringUTF16", "coderFromArrayLen", "([BI)B"⟩
abbrev yB : ByteArray := jdk_52_method_15_code
theorem d0 : decode yB 0 = .ok (.iload_n 1, 1) := by decide +kernel
theorem d1 : decode yB 1 = .ok (.aload_n 0, 1) := by decide +kernel
theorem d2 : decode yB 2 = .ok (.arraylength, 1) := by decide +kernel
theorem d3 : decode yB 3 = .ok (.isub, 1) := by decide +kernel
theorem d4 : decode yB 4 = .ok (.bipush 31, 2) := by decide +kernel
theorem d6 : decode yB 6 = .ok (.iushr, 1) := by decide +kernel
theorem d7 : decode yB 7 = .ok (.i2b, 1) := by decide +kernel
theorem d8 : decode yB 8 = .ok (.ireturn, 1) := by decide +kernel
def site : List Cond := []
def tab : Cond := tabOf yN yB 2 (some .byte) site
def P (d : Addr) (B : Cell) (args : Array Value) (s : State) : Prop := args = #[.ref d, .int (Int32.ofNat B.slots.size)] ∧ Arr .byte d B s
def E (r : Option Value) (s u : State) : Prop := XT.PureE (some (.int 0)) r s u
/-- an array as long as the number of chars: LATIN1 -/
theorem law (l : Launch) (d : Addr) (B : Cell) : Law l yN 2 2 0 0 yB 2 (some .byte) site (P d B) E [] 0 0 := by
  refine Law.of_walk (plainFor_of_name (by decide +kernel)) (by decide +kernel) (by decide +kernel) (by decide) (fun _ _ h => by rw [h.1]; rfl) (fun _ U U' hal hh h => ⟨h.1, h.2.mv hal hh⟩) (fun r U U' V V' h1 hal h2 h => XT.PureE.mv r U U' V V' h1 hal h2 h) ?_
  intro p e s m args below meth c s₁ X0 hexec hbytes hml hret hlk hnm hown hh0 W hP
  obtain ⟨rfl, hB⟩ := hP
  have hB0 := hB.mv X0.warmed.alike hh0
  have c1 : Steps p.tables e below (s₁.setTop (entryFrame m #[.ref d, .int (Int32.ofNat B.slots.size)] 2)) (s₁.setTop (mkF m 0 #[.val (.ref d), .val (.int (Int32.ofNat B.slots.size))] [])) := entry rfl
  have c2 : Steps p.tables e below (s₁.setTop (entryFrame m #[.ref d, .int (Int32.ofNat B.slots.size)] 2)) (s₁.setTop (mkF m 2 #[.val (.ref d), .val (.int (Int32.ofNat B.slots.size))] [.ref d, .int (Int32.ofNat B.slots.size)])) := c1.trans (by
    refine XS.iloadN X0.here hexec rfl (hb hbytes d0) rfl ?_
    refine XS.aloadN X0.here hexec rfl (hb hbytes d1) rfl rfl ?_
    exact Steps.refl _)
  have c3 : Steps p.tables e below (s₁.setTop (entryFrame m #[.ref d, .int (Int32.ofNat B.slots.size)] 2)) (s₁.setTop (mkF m 8 #[.val (.ref d), .val (.int (Int32.ofNat B.slots.size))] [.int (lo8 (ushr (Int32.ofNat B.slots.size - Int32.ofNat B.slots.size) 31))])) := c2.trans (by
    refine X0.alen hexec hB0 rfl rfl (hb hbytes d2) ?_
    refine XS.isub X0.here hexec rfl (hb hbytes d3) rfl ?_
    refine bipushV X0.here hexec rfl 31 (hb hbytes d4) (by decide) ?_
    refine iushr X0.here hexec rfl (hb hbytes d6) rfl ?_
    refine i2b X0.here hexec rfl (hb hbytes d7) rfl ?_
    exact Steps.refl _)
  have e0 : lo8 (ushr (Int32.ofNat B.slots.size - Int32.ofNat B.slots.size) 31) = 0 := by rw [Int32.sub_self]; decide
  rw [e0] at c3
  exact ⟨s₁, some (.int 0), _, _, _, X0, rfl, rfl, rfl, (fun h => by cases h), ⟨rfl, hh0⟩, fun fs hl => c3.trans (X0.ireturnOut hexec hret rfl (Or.inr (Or.inr (Or.inl rfl))) (hb hbytes d8) hl)⟩
end CodL
/-- the String at a is Latin-1 over a new byte[] (the heap's one new cell): the low bytes of the len chars of A from o on; every cell but a is kept -/
def Got (a : Addr) (D : Cell) (fV fC : Field) (A : Cell) (o len : Nat) (r : Option Value) (s u : State) : Prop := r = none ∧ ∃ D' V : Cell, Blank "java/lang/String" a D' u ∧ Same D D' [fV.slot, fC.slot] ∧ D'.slots[fV.slot]? = some (.ref s.heap.size) ∧ D'.slots[fC.slot]? = some (.int 0) ∧ Arr .byte s.heap.size V u ∧ V.vm = .none ∧ u.vm.findClass "[B" = some V.cls ∧ V.slots.size = len ∧ (∀ j, j < len → V.slots[j]? = some (.int (lo8 (cv A (o + j))))) ∧ (∀ (y : Addr) (c : Cell), y ≠ a → s.heap[y]? = some c → u.heap[y]? = some c) ∧ u.heap.size = s.heap.size + 1
theorem Got.mv {a : Addr} {D A : Cell} {fV fC : Field} {o len : Nat} : ∀ r (U U' V V' : State), U'.heap = U.heap → V.vm.Alike V'.vm → V'.heap = V.heap → Got a D fV fC A o len r U V → Got a D fV fC A o len r U' V' :=
  fun r U U' V V' h1 hal h2 ⟨e0, D', X, a1, a2, a3, a4, a5, a6, a7, a8, a9, a10, a11⟩ => ⟨e0, D', X, a1.mv hal h2, a2, by rw [h1]; exact a3, a4, by rw [h1]; exact a5.mv hal h2, a6, by rw [hal.findClass]; exact a7, a8, a9, by rw [h1, h2]; exact a10, by rw [h1, h2]; exact a11⟩
namespace New4
def yN : MethodName := ⟨"java/lang/String", "<init>", "([CIILjava/lang/Void;)V"⟩
abbrev yB : ByteArray := jdk_42_method_149_code
theorem d0 : decode yB 0 = .ok (.aload_n 0, 1) := by decide +kernel
theorem d1 : decode yB 1 = .ok (.invokespecial 1, 3) := by decide +kernel
theorem d4 : decode yB 4 = .ok (.iload_n 3, 1) := by decide +kernel
theorem d5 : decode yB 5 = .ok (.ifCond (.ne) 22, 3) := by decide +kernel
theorem d27 : decode yB 27 = .ok (.getstatic 38, 3) := by decide +kernel
theorem d30 : decode yB 30 = .ok (.ifCond (.eq) 28, 3) := by decide +kernel
theorem d33 : decode yB 33 = .ok (.aload_n 1, 1) := by decide +kernel
theorem d34 : decode yB 34 = .ok (.iload_n 2, 1) := by decide +kernel
theorem d35 : decode yB 35 = .ok (.iload_n 3, 1) := by decide +kernel
theorem d36 : decode yB 36 = .ok (.invokestatic 177, 3) := by decide +kernel
theorem d39 : decode yB 39 = .ok (.astore 5, 2) := by decide +kernel
theorem d41 : decode yB 41 = .ok (.aload_n 0, 1) := by decide +kernel
theorem d42 : decode yB 42 = .ok (.aload 5, 2) := by decide +kernel
theorem d44 : decode yB 44 = .ok (.iload_n 3, 1) := by decide +kernel
theorem d45 : decode yB 45 = .ok (.invokestatic 47, 3) := by decide +kernel
theorem d48 : decode yB 48 = .ok (.putfield 15, 3) := by decide +kernel
theorem d51 : decode yB 51 = .ok (.aload_n 0, 1) := by decide +kernel
theorem d52 : decode yB 52 = .ok (.aload 5, 2) := by decide +kernel
theorem d54 : decode yB 54 = .ok (.putfield 9, 3) := by decide +kernel
theorem d57 : decode yB 57 = .ok (.return_, 1) := by decide +kernel
def site : List Cond := [.fieldLink "java/lang/String" 38 "java/lang/String" "COMPACT_STRINGS" "Z", Cmp3.tab, CodL.tab, .laysFinal "java/lang/String" "java/lang/String" "value" "[B", .fieldLink "java/lang/String" 9 "java/lang/String" "value" "[B", .laysFinal "java/lang/String" "java/lang/String" "coder" "B", .fieldLink "java/lang/String" 15 "java/lang/String" "coder" "B"] ++ objW "java/lang/String" 1 ++ staticW "java/lang/String" 177 Cmp3.yN ++ staticW "java/lang/String" 47 CodL.yN
def tab : Cond := tabOf yN yB 6 none site
def P (a : Addr) (D : Cell) (fV fC : Field) (b : Addr) (A : Cell) (z : Int32) (o len : Nat) (args : Array Value) (s : State) : Prop := args = #[.ref a, .ref b, .int (Int32.ofNat o), .int (Int32.ofNat len), .null] ∧ Blank "java/lang/String" a D s ∧ Found "java/lang/String" "value" "[B" fV s ∧ Found "java/lang/String" "coder" "B" fC s ∧ Ch b A s ∧ StaticIs s "java/lang/String" "COMPACT_STRINGS" "Z" (.int z) ∧ ¬ z = 0 ∧ 0 < len ∧ o + len ≤ A.slots.size ∧ len ≤ 536870912 ∧ ∀ i, i < len → ¬ 255 < cv A (o + i)
def E (a : Addr) (D : Cell) (fV fC : Field) (A : Cell) (o len : Nat) (r : Option Value) (s u : State) : Prop := Got a D fV fC A o len r s u
/-- len > 0, no char of the range above 255: a Latin-1 String of their low bytes -/
theorem law (l : Launch) (a : Addr) (D : Cell) (fV fC : Field) (b : Addr) (A : Cell) (z : Int32) (o len : Nat) : Law l yN 5 4 2 35 yB 6 none site (P a D fV fC b A z o len) (E a D fV fC A o len) [⟨a, fC.slot⟩, ⟨a, fV.slot⟩] 1 len := by
  refine Law.of_walk (plainFor_of_name (by decide +kernel)) (by decide +kernel) (by decide +kernel) (by decide) (fun _ _ h => by rw [h.1]; rfl) (fun _ U U' hal hh h => ⟨h.1, h.2.1.mv hal hh, h.2.2.1.al hal, h.2.2.2.1.al hal, h.2.2.2.2.1.mv hal hh, h.2.2.2.2.2.1.there hal hh, h.2.2.2.2.2.2⟩) (fun r U U' V V' h1 hal h2 h => Got.mv r U U' V V' h1 hal h2 h) ?_
  intro p e s m args below meth c s₁ X0 hexec hbytes hml hret hlk hnm hown hh0 W hP
  obtain ⟨rfl, hB, f1, f2, hA, s1, hz, l0, l1, l2, hp⟩ := hP
  have a31 := hA.1.2.2.2
  have c1 : Steps p.tables e below (s₁.setTop (entryFrame m #[.ref a, .ref b, .int (Int32.ofNat o), .int (Int32.ofNat len), .null] 6)) (s₁.setTop (mkF m 0 #[.val (.ref a), .val (.ref b), .val (.int (Int32.ofNat o)), .val (.int (Int32.ofNat len)), .val .null, .unset] [])) := entry rfl
  have c2 : Steps p.tables e below (s₁.setTop (entryFrame m #[.ref a, .ref b, .int (Int32.ofNat o), .int (Int32.ofNat len), .null] 6)) (s₁.setTop (mkF m 1 #[.val (.ref a), .val (.ref b), .val (.int (Int32.ofNat o)), .val (.int (Int32.ofNat len)), .val .null, .unset] [.ref a])) := c1.trans (by
    refine XS.aloadN X0.here hexec rfl (hb hbytes d0) rfl rfl ?_
    exact Steps.refl _)
  obtain ⟨T3, X3, q3, st3⟩ := X0.oinit hexec hown (wks W (objW "java/lang/String" 1)) (g := (mkF m 1 #[.val (.ref a), .val (.ref b), .val (.int (Int32.ofNat o)), .val (.int (Int32.ofNat len)), .val .null, .unset] [.ref a])) rfl (by rw [hml]; rfl) (rest := []) rfl (hb hbytes d1) (W := 0) (by show 2 * 0 + 0 ≤ _; decide) (Nat.le_of_ble_eq_true rfl) (Nat.le_of_ble_eq_true rfl)
  have hh3 := q3.trans hh0
  have c4 : Steps p.tables e below (s₁.setTop (entryFrame m #[.ref a, .ref b, .int (Int32.ofNat o), .int (Int32.ofNat len), .null] 6)) (T3.setTop (mkF m 27 #[.val (.ref a), .val (.ref b), .val (.int (Int32.ofNat o)), .val (.int (Int32.ofNat len)), .val .null, .unset] [])) := (c2.trans (st3 _ (Steps.refl _))).trans (by
    refine XS.iloadN X3.here hexec rfl (hb hbytes d4) rfl ?_
    refine XS.ifYes X3.here hexec rfl (pc0 := 5) rfl (hb hbytes d5) rfl (i0_ne_t (nz32 (by omega) l0)) (by decide) rfl ?_
    exact Steps.refl _)
  obtain ⟨T5, X5, q5, st5⟩ := X3.sget hexec hown (wk W (.fieldLink "java/lang/String" 38 "java/lang/String" "COMPACT_STRINGS" "Z")) s1 (fun _ _ h => by rw [hh3]; exact h) (g := (mkF m 27 #[.val (.ref a), .val (.ref b), .val (.int (Int32.ofNat o)), .val (.int (Int32.ofNat len)), .val .null, .unset] [])) rfl (hb hbytes d27)
  have hh5 := q5.trans hh3
  have c6 : Steps p.tables e below (s₁.setTop (entryFrame m #[.ref a, .ref b, .int (Int32.ofNat o), .int (Int32.ofNat len), .null] 6)) (T5.setTop (mkF m 30 #[.val (.ref a), .val (.ref b), .val (.int (Int32.ofNat o)), .val (.int (Int32.ofNat len)), .val .null, .unset] [.int z])) := c4.trans (st5 _ (Steps.refl _))
  have c7 : Steps p.tables e below (s₁.setTop (entryFrame m #[.ref a, .ref b, .int (Int32.ofNat o), .int (Int32.ofNat len), .null] 6)) (T5.setTop (mkF m 36 #[.val (.ref a), .val (.ref b), .val (.int (Int32.ofNat o)), .val (.int (Int32.ofNat len)), .val .null, .unset] [.int (Int32.ofNat len), .int (Int32.ofNat o), .ref b])) := c6.trans (by
    refine XS.ifNo X5.here hexec rfl (hb hbytes d30) rfl (i0_eq_f hz) ?_
    refine XS.aloadN X5.here hexec rfl (hb hbytes d33) rfl rfl ?_
    refine XS.iloadN X5.here hexec rfl (hb hbytes d34) rfl ?_
    refine XS.iloadN X5.here hexec rfl (hb hbytes d35) rfl ?_
    exact Steps.refl _)
  obtain ⟨v8, T8, X8, E8, g8⟩ := X5.callS hexec (Cmp3.law l b A o len) hown (wks W (staticW "java/lang/String" 177 Cmp3.yN)) (wk W Cmp3.tab) (W := 0) (Nat.le_of_ble_eq_true rfl) (Nat.le_of_ble_eq_true rfl) (Nat.le_refl _) (by show 0 + len ≤ len; omega) (g := (mkF m 36 #[.val (.ref a), .val (.ref b), .val (.int (Int32.ofNat o)), .val (.int (Int32.ofNat len)), .val .null, .unset] [.int (Int32.ofNat len), .int (Int32.ofNat o), .ref b])) rfl (by rw [hml]; rfl) c7 (argsL := [.ref b, .int (Int32.ofNat o), .int (Int32.ofNat len)]) (rest := []) rfl rfl (by show 2 * 0 + 0 ≤ _; decide) (hb hbytes d36) (⟨rfl, hA.mv X5.warmed.alike hh5, l1, l2, hp⟩)
  obtain ⟨e8, z8⟩ := E8
  obtain ⟨rfl, N, n1, n2, n3, n4, n5, n6⟩ := NewArr.mv _ T5 s _ _ hh5.symm (Vm.Alike.refl _) rfl e8
  rw [hh5] at z8
  have hB1 := hB.keep X8.warmed.alike (n6 _ _ hB.1)
  have hne : s.heap.size ≠ a := (Nat.ne_of_lt (Array.getElem?_eq_some_iff.mp hB.1).1).symm
  have c9 : Steps p.tables e below (s₁.setTop (entryFrame m #[.ref a, .ref b, .int (Int32.ofNat o), .int (Int32.ofNat len), .null] 6)) (T8.setTop (mkF m 39 #[.val (.ref a), .val (.ref b), .val (.int (Int32.ofNat o)), .val (.int (Int32.ofNat len)), .val .null, .unset] [.ref s.heap.size])) := g8
  have c10 : Steps p.tables e below (s₁.setTop (entryFrame m #[.ref a, .ref b, .int (Int32.ofNat o), .int (Int32.ofNat len), .null] 6)) (T8.setTop (mkF m 45 #[.val (.ref a), .val (.ref b), .val (.int (Int32.ofNat o)), .val (.int (Int32.ofNat len)), .val .null, .val (.ref s.heap.size)] [.int (Int32.ofNat N.slots.size), .ref s.heap.size, .ref a])) := by
    have hc : Steps p.tables e below (s₁.setTop (entryFrame m #[.ref a, .ref b, .int (Int32.ofNat o), .int (Int32.ofNat len), .null] 6)) (T8.setTop (mkF m 45 #[.val (.ref a), .val (.ref b), .val (.int (Int32.ofNat o)), .val (.int (Int32.ofNat len)), .val .null, .val (.ref s.heap.size)] [.int (Int32.ofNat len), .ref s.heap.size, .ref a])) := c9.trans (by
      refine XS.astore X8.here hexec rfl (hb hbytes d39) rfl rfl rfl ?_
      refine XS.aloadN X8.here hexec rfl (hb hbytes d41) rfl rfl ?_
      refine XS.aload X8.here hexec rfl (hb hbytes d42) rfl rfl ?_
      refine XS.iloadN X8.here hexec rfl (hb hbytes d44) rfl ?_
      exact Steps.refl _)
    rw [n4]; exact hc
  obtain ⟨v11, T11, X11, E11, g11⟩ := X8.callS hexec (CodL.law l s.heap.size N) hown (wks W (staticW "java/lang/String" 47 CodL.yN)) (wk W CodL.tab) (W := 1) (Nat.le_of_ble_eq_true rfl) (Nat.le_of_ble_eq_true rfl) (Nat.le_refl _) (by show 0 + len + 0 ≤ len; omega) (g := (mkF m 45 #[.val (.ref a), .val (.ref b), .val (.int (Int32.ofNat o)), .val (.int (Int32.ofNat len)), .val .null, .val (.ref s.heap.size)] [.int (Int32.ofNat N.slots.size), .ref s.heap.size, .ref a])) rfl (by rw [hml]; rfl) c10 (argsL := [.ref s.heap.size, .int (Int32.ofNat N.slots.size)]) (rest := [.ref a]) rfl rfl (by show 2 * 0 + (1 + 0) ≤ _; decide) (hb hbytes d45) (⟨rfl, n1⟩)
  obtain ⟨rfl, q11⟩ := E11
  have hB11 := hB1.mv (X8.warmed.alike.symm.trans X11.warmed.alike) q11
  have c12 : Steps p.tables e below (s₁.setTop (entryFrame m #[.ref a, .ref b, .int (Int32.ofNat o), .int (Int32.ofNat len), .null] 6)) (T11.setTop (mkF m 48 #[.val (.ref a), .val (.ref b), .val (.int (Int32.ofNat o)), .val (.int (Int32.ofNat len)), .val .null, .val (.ref s.heap.size)] [.int 0, .ref a])) := g11
  obtain ⟨T13, X13, p13, bl13, sl13, st13⟩ := X11.finit hexec hown (wk W (.fieldLink "java/lang/String" 15 "java/lang/String" "coder" "B")) (Or.inr ⟨_, (wk W (.laysFinal "java/lang/String" "java/lang/String" "coder" "B"))⟩) (Or.inl ⟨rfl, hnm⟩) f2 (Or.inl rfl) hB11 (t := .byte) (by decide +kernel) rfl (g := (mkF m 48 #[.val (.ref a), .val (.ref b), .val (.int (Int32.ofNat o)), .val (.int (Int32.ofNat len)), .val .null, .val (.ref s.heap.size)] [.int 0, .ref a])) rfl (rest := []) rfl (hb hbytes d48)
  have c14 : Steps p.tables e below (s₁.setTop (entryFrame m #[.ref a, .ref b, .int (Int32.ofNat o), .int (Int32.ofNat len), .null] 6)) (T13.setTop (mkF m 54 #[.val (.ref a), .val (.ref b), .val (.int (Int32.ofNat o)), .val (.int (Int32.ofNat len)), .val .null, .val (.ref s.heap.size)] [.ref s.heap.size, .ref a])) := (c12.trans (st13 _ (Steps.refl _))).trans (by
    refine XS.aloadN X13.here hexec rfl (hb hbytes d51) rfl rfl ?_
    refine XS.aload X13.here hexec rfl (hb hbytes d52) rfl rfl ?_
    exact Steps.refl _)
  obtain ⟨T15, X15, p15, bl15, sl15, st15⟩ := X13.finit hexec hown (wk W (.fieldLink "java/lang/String" 9 "java/lang/String" "value" "[B")) (Or.inr ⟨_, (wk W (.laysFinal "java/lang/String" "java/lang/String" "value" "[B"))⟩) (Or.inl ⟨rfl, hnm⟩) f1 (Or.inl rfl) bl13 (t := (.array .byte)) (by decide +kernel) rfl (g := (mkF m 54 #[.val (.ref a), .val (.ref b), .val (.int (Int32.ofNat o)), .val (.int (Int32.ofNat len)), .val .null, .val (.ref s.heap.size)] [.ref s.heap.size, .ref a])) rfl (rest := []) rfl (hb hbytes d54)
  have c16 : Steps p.tables e below (s₁.setTop (entryFrame m #[.ref a, .ref b, .int (Int32.ofNat o), .int (Int32.ofNat len), .null] 6)) (T15.setTop (mkF m 57 #[.val (.ref a), .val (.ref b), .val (.int (Int32.ofNat o)), .val (.int (Int32.ofNat len)), .val .null, .val (.ref s.heap.size)] [])) := c14.trans (st15 _ (Steps.refl _))
  have ap := apart (Or.inr ⟨_, (wk W (.laysFinal "java/lang/String" "java/lang/String" "value" "[B"))⟩) (Or.inr ⟨_, (wk W (.laysFinal "java/lang/String" "java/lang/String" "coder" "B"))⟩) f1 f2 (t₁ := .array .byte) (t₂ := .byte) (by decide +kernel) (by decide +kernel) (by decide)
  have al := X8.warmed.alike.symm.trans X15.warmed.alike
  have n7 : T11.heap[s.heap.size]? = some N := by rw [q11]; exact n1.1
  exact ⟨T15, none, _, _, _, X15, by simp, rfl, by omega, (fun _ => rfl), ⟨rfl, _, N, bl15, ((Same.refl D _).set _ (by simp)).set _ (by simp), sl15, (Cell.slots_setSlot_ne _ ap).trans sl13, n1.keep al (p15.other hne (p13.other hne n7)), n2, by rw [al.findClass]; exact n3, n4, n5, fun y c h1 h2 => p15.other h1 (p13.other h1 (by rw [q11]; exact n6 y c h2)), by rw [p15.2.2, p13.2.2, q11]; exact z8⟩, fun fs hl => c16.trans (X15.returnOut hexec hret (hb hbytes d57) hl)⟩
end New4
namespace New1
def yN : MethodName := ⟨"java/lang/String", "<init>", "([C)V"⟩
abbrev yB : ByteArray := jdk_42_method_3_code
theorem d0 : decode yB 0 = .ok (.aload_n 0, 1) := by decide +kernel
theorem d1 : decode yB 1 = .ok (.aload_n 1, 1) := by decide +kernel
theorem d2 : decode yB 2 = .ok (.iconst 0, 1) := by decide +kernel
theorem d3 : decode yB 3 = .ok (.aload_n 1, 1) := by decide +kernel
theorem d4 : decode yB 4 = .ok (.arraylength, 1) := by decide +kernel
theorem d5 : decode yB 5 = .ok (.aconst_null, 1) := by decide +kernel
theorem d6 : decode yB 6 = .ok (.invokespecial 27, 3) := by decide +kernel
theorem d9 : decode yB 9 = .ok (.return_, 1) := by decide +kernel
def site : List Cond := [New4.tab] ++ initW "java/lang/String" 27 New4.yN
def tab : Cond := tabOf yN yB 2 none site
def P (a : Addr) (D : Cell) (fV fC : Field) (b : Addr) (A : Cell) (z : Int32) (args : Array Value) (s : State) : Prop := args = #[.ref a, .ref b] ∧ Blank "java/lang/String" a D s ∧ Found "java/lang/String" "value" "[B" fV s ∧ Found "java/lang/String" "coder" "B" fC s ∧ Ch b A s ∧ StaticIs s "java/lang/String" "COMPACT_STRINGS" "Z" (.int z) ∧ ¬ z = 0 ∧ 0 < A.slots.size ∧ A.slots.size ≤ 536870912 ∧ ∀ i, i < A.slots.size → ¬ 255 < cv A i
def E (a : Addr) (D : Cell) (fV fC : Field) (A : Cell) (r : Option Value) (s u : State) : Prop := Got a D fV fC A 0 A.slots.size r s u
/-- new String(chars), not empty, no char above 255: a Latin-1 String of their low bytes -/
theorem law (l : Launch) (a : Addr) (D : Cell) (fV fC : Field) (b : Addr) (A : Cell) (z : Int32) : Law l yN 2 1 3 52 yB 2 none site (P a D fV fC b A z) (E a D fV fC A) [⟨a, fC.slot⟩, ⟨a, fV.slot⟩] 1 A.slots.size := by
  refine Law.of_walk (plainFor_of_name (by decide +kernel)) (by decide +kernel) (by decide +kernel) (by decide) (fun _ _ h => by rw [h.1]; rfl) (fun _ U U' hal hh h => ⟨h.1, h.2.1.mv hal hh, h.2.2.1.al hal, h.2.2.2.1.al hal, h.2.2.2.2.1.mv hal hh, h.2.2.2.2.2.1.there hal hh, h.2.2.2.2.2.2⟩) (fun r U U' V V' h1 hal h2 h => Got.mv r U U' V V' h1 hal h2 h) ?_
  intro p e s m args below meth c s₁ X0 hexec hbytes hml hret hlk hnm hown hh0 W hP
  obtain ⟨rfl, hB, f1, f2, hA, s1, hz, l0, l2, hp⟩ := hP
  have c1 : Steps p.tables e below (s₁.setTop (entryFrame m #[.ref a, .ref b] 2)) (s₁.setTop (mkF m 0 #[.val (.ref a), .val (.ref b)] [])) := entry rfl
  have c2 : Steps p.tables e below (s₁.setTop (entryFrame m #[.ref a, .ref b] 2)) (s₁.setTop (mkF m 6 #[.val (.ref a), .val (.ref b)] [.null, .int (Int32.ofNat A.slots.size), .int 0, .ref b, .ref a])) := c1.trans (by
    refine XS.aloadN X0.here hexec rfl (hb hbytes d0) rfl rfl ?_
    refine XS.aloadN X0.here hexec rfl (hb hbytes d1) rfl rfl ?_
    refine iconstV X0.here hexec rfl 0 (hb hbytes d2) (by decide) ?_
    refine XS.aloadN X0.here hexec rfl (hb hbytes d3) rfl rfl ?_
    refine X0.alen hexec (hA.1.mv X0.warmed.alike hh0) rfl rfl (hb hbytes d4) ?_
    refine XS.aconstNull X0.here hexec rfl (hb hbytes d5) ?_
    exact Steps.refl _)
  obtain ⟨v3, T3, X3, E3, g3⟩ := X0.callN hexec (New4.law l a D fV fC b A z 0 A.slots.size) rfl hown (wks W (initW "java/lang/String" 27 New4.yN)) (W New4.tab (by simp only [site, List.mem_cons, List.mem_append, true_or, or_true])) (W := 0) (Nat.le_of_ble_eq_true rfl) (Nat.le_of_ble_eq_true rfl) (Nat.le_refl _) (by show 0 + A.slots.size ≤ A.slots.size; omega) (g := (mkF m 6 #[.val (.ref a), .val (.ref b)] [.null, .int (Int32.ofNat A.slots.size), .int (Int32.ofNat 0), .ref b, .ref a])) rfl (by rw [hml]; rfl) c2 (argsL := [.ref b, .int (Int32.ofNat 0), .int (Int32.ofNat A.slots.size), .null]) (rest := []) rfl rfl (by show 2 * 0 + 0 ≤ _; decide) (hb hbytes d6) (⟨rfl, hB.mv X0.warmed.alike hh0, f1.al X0.warmed.alike, f2.al X0.warmed.alike, hA.mv X0.warmed.alike hh0, s1.there X0.warmed.alike hh0, hz, l0, by omega, l2, fun i hi => by rw [Nat.zero_add]; exact hp i hi⟩)
  have e0 := Got.mv _ s₁ s _ _ hh0.symm (Vm.Alike.refl _) rfl E3
  obtain rfl := e0.1
  have c4 : Steps p.tables e below (s₁.setTop (entryFrame m #[.ref a, .ref b] 2)) (T3.setTop (mkF m 9 #[.val (.ref a), .val (.ref b)] [])) := g3
  exact ⟨T3, none, _, _, _, X3, by simp, rfl, by omega, (fun _ => rfl), e0, fun fs hl => c4.trans (X3.returnOut hexec hret (hb hbytes d9) hl)⟩
theorem pays {l : Launch} {R : Room} {p : Program} {e : Env} {below : List Frame} {s : State} {sargs : Array Value} {len W : Nat} (a : Addr) (D : Cell) (fV fC : Field) (b : Addr) (A : Cell) (z : Int32) (htab : tab.before sargs s = true) (hfr : 4 ≤ R.frames) (hlo : W + 65 ≤ R.locals) :
    Back l R p e below s sargs yN len W (fun A₁ a₁ => A₁.cells + 1 ≤ R.cells ∧ A₁.slots + A.slots.size ≤ R.slots ∧ P a D fV fC b A z a₁ A₁.U) (fun A₁ _ v₁ B₁ => E a D fV fC A v₁ A₁.U B₁.U ∧ B₁.locs = A₁.locs ++ [⟨a, fC.slot⟩, ⟨a, fV.slot⟩] ∧ B₁.cells = A₁.cells + 1 ∧ B₁.slots = A₁.slots + A.slots.size) :=
  (law l a D fV fC b A z).pays htab hfr (by omega)
end New1
/-- the byte, read back as charAt reads it, is the char -/
theorem lo8_mask {x : Int32} (h0 : ¬ x < 0) (h1 : ¬ 255 < x) : lo8 x &&& 255 = x := by
  have t : ∀ k : Fin 256, lo8 (Int32.ofNat k.val) &&& 255 = Int32.ofNat k.val := by decide +kernel
  rw [Int32.lt_iff_toInt_lt] at h0 h1
  have e0 : (0 : Int32).toInt = 0 := rfl
  have e1 : (255 : Int32).toInt = 255 := rfl
  obtain ⟨k, hk⟩ : ∃ k : Nat, x.toInt = k := ⟨x.toInt.toNat, by omega⟩
  have hx : x = Int32.ofNat k := Int32.toInt_inj.mp (by rw [hk, Int32.toInt_ofNat_small (by omega)])
  rw [hx]
  exact t ⟨k, by omega⟩
end StrChars
namespace StrChars.Road
open Jvm Sem ClassFile Op Lib Jvm.Stand Jvm.Free Jvm.Free.XT
open Jvm.Lib.Cold (StaticIs)
abbrev ST : String := "java/lang/String"
/-- every table word that New1's law asks, flat -/
abbrev words : List Jvm.Cond := [.code New1.yN New1.yB 2 none, .initialized ST, .methodLink ST 27 New4.yN, .instanceMethod New4.yN,
  .code New4.yN New4.yB 6 none, .fieldLink ST 38 ST "COMPACT_STRINGS" "Z", .laysFinal ST ST "value" "[B", .fieldLink ST 9 ST "value" "[B", .laysFinal ST ST "coder" "B", .fieldLink ST 15 ST "coder" "B",
  .methodLink ST 1 Lib.objectInit, .instanceMethod Lib.objectInit, .code Lib.objectInit ⟨#[0xb1]⟩ 1 none, .methodLink ST 177 Cmp3.yN, .static Cmp3.yN, .methodLink ST 47 CodL.yN, .static CodL.yN,
  .code Cmp3.yN Cmp3.yB 6 (some (.array .byte)), .initialized U16, .arrayClass .byte, .methodLink U16 115 Cmp5.yN, .static Cmp5.yN, .code Cmp5.yN Cmp5.yB 7 (some .int), .code CodL.yN CodL.yB 2 (some .byte)]
theorem tab_of {a : Array Value} {s : State} (h : ∀ w ∈ words, w.before a s = true) : New1.tab.before a s = true := by
  have h5 : Cmp5.tab.before a s = true := unparts (wk h (.code Cmp5.yN Cmp5.yB 7 (some .int))) (wks h (.initialized Cmp5.yN.cls :: Cmp5.site))
  have hc : CodL.tab.before a s = true := unparts (wk h (.code CodL.yN CodL.yB 2 (some .byte))) (wks h (.initialized CodL.yN.cls :: CodL.site))
  have q5 : ∀ w ∈ Cmp5.tab :: words, w.before a s = true := fun w hw => (List.mem_cons.mp hw).elim (fun e => e ▸ h5) (h w)
  have h3 : Cmp3.tab.before a s = true := unparts (wk q5 (.code Cmp3.yN Cmp3.yB 6 (some (.array .byte)))) (wks q5 (.initialized Cmp3.yN.cls :: Cmp3.site))
  have q3 : ∀ w ∈ Cmp3.tab :: CodL.tab :: words, w.before a s = true := fun w hw => (List.mem_cons.mp hw).elim (fun e => e ▸ h3) fun hw => (List.mem_cons.mp hw).elim (fun e => e ▸ hc) (h w)
  have h4 : New4.tab.before a s = true := unparts (wk q3 (.code New4.yN New4.yB 6 none)) (wks q3 (.initialized New4.yN.cls :: New4.site))
  have q4 : ∀ w ∈ New4.tab :: words, w.before a s = true := fun w hw => (List.mem_cons.mp hw).elim (fun e => e ▸ h4) (h w)
  exact unparts (wk q4 (.code New1.yN New1.yB 2 none)) (wks q4 (.initialized New1.yN.cls :: New1.site))
/-- the words ride from the start Z to the walk's own state -/
theorem moved {Z s : State} {a0 args : Array Value} (hZ : Z.Warmed39 s.vm) (hw : ∀ d ∈ words, d.before a0 Z = true) : ∀ d ∈ words, d.before args s = true := fun d hd => by
  have q := hw d hd
  have t : ∀ d ∈ words, d = .arrayClass .byte ∨ (d.onTables && d.keepsFace) = true := by decide +kernel
  rcases t d hd with rfl | t
  · exact RoadKit.mvA hZ q
  · exact RoadKit.mv hZ q t
/-- WHAT COMES BACK, over the tables of the start Z: h the heap at the call, h' behind it -/
def Q (Z : State) (x : Addr) (A : Cell) (h : Heap) (v : Option Value) (h' : Heap) (L : List Loc) : Prop := v = none ∧ (∀ y ∈ L, y.base = x) ∧ RoadKit.Keep h h' [x] ∧ h'.size = h.size + 1 ∧ RoadKit.Exa Z h' x ST ∧ RoadKit.Fld Z h' x ST "value" "[B" (.ref h.size) ∧ RoadKit.Fld Z h' x ST "coder" "B" (.int 0) ∧
  (∃ V : Cell, RoadKit.Arr Z h' h.size V .byte ∧ V.vm = .none ∧ Z.vm.findClass "[B" = some V.cls ∧ V.slots.size = A.slots.size ∧ ∀ j, j < A.slots.size → V.slots[j]? = some (.int (lo8 (cv A j)))) ∧
  ∀ (O n d : String) (w : Value), RoadKit.Fld Z h x O n d w → RoadKit.slotOf Z O n d ≠ RoadKit.slotOf Z ST "value" "[B" → RoadKit.slotOf Z O n d ≠ RoadKit.slotOf Z ST "coder" "B" → RoadKit.Fld Z h' x O n d w
/-- **new String(chars) AT A CALL, IN THE ROAD'S FORM**: for specialBack behind newO: x the fresh String, b the char[] with the cell A -/
theorem back {p : Program} {l : Launch} {e : Env} {R : Room} {s : State} {args : Array Value} {below : List Frame} {len W : Nat} {Z : State} {a0 : Array Value} {h : Heap} (hZ : Z.Warmed39 s.vm) (hw : ∀ d ∈ words, d.before a0 Z = true) {kI : Nat} (wi : (Jvm.Cond.instantiable ST kI).before a0 Z = true)
    {x b : Addr} {A : Cell} {z : Int32} {v0 c0 : Value} (E : RoadKit.Exa Z h x ST) (V : RoadKit.Fld Z h x ST "value" "[B" v0) (C : RoadKit.Fld Z h x ST "coder" "B" c0) (K : RoadKit.Arr Z h b A .char) (hty : Typed .char A) (S : RoadKit.Sta Z h ST "COMPACT_STRINGS" "Z" (.int z)) (hz : ¬ z = 0)
    (l0 : 0 < A.slots.size) (l2 : A.slots.size ≤ 536870912) (hp : ∀ i, i < A.slots.size → ¬ 255 < cv A i) (hfr : 4 ≤ R.frames) (hlo : W + 65 ≤ R.locals) :
    Back l R p e below s args New1.yN len W (fun P a => a = #[.ref x, .ref b] ∧ P.U.heap = h ∧ P.cells + 1 ≤ R.cells ∧ P.slots + A.slots.size ≤ R.slots)
      (fun P _ v B => ∃ L, Q Z x A h v B.U.heap L ∧ B.locs = P.locs ++ L ∧ B.cells = P.cells + 1 ∧ B.slots = P.slots + A.slots.size) := by
  intro m meth c P g ig mk a X hg hsize hdg hW hn hp'
  obtain ⟨rfl, rfl, r1, r2⟩ := hp'
  have al : Z.vm.Alike P.U.vm := hZ.alike.trans X.warmed.alike
  obtain ⟨D, cfV, kV, iV, fV, hD, gV, stV, knV, obV, asV, slV⟩ := id V
  obtain ⟨D', cfC, kC, iC, fC, hD', gC, stC, -, -, asC, slC⟩ := id C
  cases hD.symm.trans hD'
  obtain ⟨D2, kD, e1, e2, e3, e4, e5⟩ := id E
  cases hD.symm.trans e1
  obtain ⟨c2, k2, i1, i2, i3, -⟩ := Cond.instantiable_spec wi
  cases e2.symm.trans i1
  cases e3.symm.trans i2
  obtain ⟨kU, u1, u2⟩ := al.2.2 _ _ e3
  have hB : Blank ST x D P.U := ⟨hD, ⟨knV, fun q hq => by rw [hq] at obV; cases obV⟩, by rw [al.findClass]; exact e2, kU, u1, by rw [u2]; exact i3, by rw [u2]; exact e5 i3⟩
  have F1 : Found ST "value" "[B" fV P.U := ⟨SBG.found_only al ⟨cfV, kV, iV, gV⟩, stV⟩
  have F2 : Found ST "coder" "B" fC P.U := ⟨SBG.found_only al ⟨cfC, kC, iC, gC⟩, stC⟩
  have hA : Ch b A P.U := ⟨⟨K.1, State.isArrayOf_alike al K.2.1, K.2.2, by omega⟩, hty⟩
  have hS : StaticIs P.U ST "COMPACT_STRINGS" "Z" (.int z) := by
    obtain ⟨cfS, iS, kS, fS, st, cS, t1, t2, t3, t4, t5, t6, t7⟩ := S
    exact StaticIs.there (s := { Z with heap := P.U.heap }) ⟨cfS, iS, kS, fS, st, cS, t1, t2, t3, t4, t5, (fun q => by rw [q] at t6; cases t6), t7⟩ al rfl
  obtain ⟨v, B, X', ⟨⟨hv, E', V', q1, q2, q3, q4, q5, q6, q7, q8, q9, q10, q11⟩, hl, hc, hs⟩, st⟩ := New1.pays x D fV fC b A z (tab_of (moved hZ hw)) hfr hlo m meth c P g ig mk _ X hg hsize hdg hW hn ⟨r1, r2, rfl, hB, F1, F2, hA, hS, hz, l0, l2, hp⟩
  have al' : Z.vm.Alike B.U.vm := hZ.alike.trans X'.warmed.alike
  have hsz : E'.slots.size = D.slots.size := by
    obtain ⟨-, -, -, kB, w1, w2, w3⟩ := q1
    obtain ⟨kB', y1, y2⟩ := al'.2.2 _ _ e3
    rw [q2.2.1] at w1
    cases w1.symm.trans y1
    rw [w3, e5 i3, y2]
  refine ⟨v, B, X', ⟨_, ⟨hv, ?_, ⟨by omega, fun y cy hy hn' => q10 y cy (by simpa using hn') hy, fun y cy hy => ?_⟩, q11, ⟨E', _, q1.1, by rw [q2.2.1]; exact e2, by rw [q2.2.1]; exact e3, by rw [q2.1]; exact obV, fun _ => by rw [hsz]; exact e5 i3⟩,
    ⟨E', cfV, kV, iV, fV, q1.1, gV, stV, by rw [q2.1]; exact knV, by rw [q2.1]; exact obV, by rw [q2.2.1]; exact asV, q3⟩, ⟨E', cfC, kC, iC, fC, q1.1, gC, stC, by rw [q2.1]; exact knV, by rw [q2.1]; exact obV, by rw [q2.2.1]; exact asC, q4⟩,
    ⟨V', ⟨q5.1, State.isArrayOf_alike al'.symm q5.2.1, q5.2.2.1⟩, q6, by rw [← al'.findClass]; exact q7, q8, fun j hj => by have := q9 j hj; rwa [Nat.zero_add] at this⟩, fun O n d w F n1 n2 => ?_⟩, hl, hc, hs⟩, st⟩
  · intro y hy
    simp only [List.mem_cons, List.not_mem_nil, or_false] at hy
    rcases hy with rfl | rfl <;> rfl
  · by_cases q : y = x
    · subst q
      cases hD.symm.trans hy
      exact ⟨E', q1.1, q2.2.1, q2.1, hsz⟩
    · exact ⟨cy, q10 y cy q hy, rfl, rfl, rfl⟩
  · obtain ⟨D3, cf, k, i, f, g1, g2, g3, g4, g5, g6, g7⟩ := F
    cases hD.symm.trans g1
    simp only [RoadKit.slotOf, g2, gV, gC, Option.map_some, Option.getD_some] at n1 n2
    exact ⟨E', cf, k, i, f, q1.1, g2, g3, by rw [q2.1]; exact g4, by rw [q2.1]; exact g5, by rw [q2.2.1]; exact g6, by rw [q2.2.2 f.slot (by simp [n1, n2])]; exact g7⟩
end StrChars.Road
namespace StrChars.Road
open Jvm Sem ClassFile Op Lib Jvm.Stand Jvm.Free Jvm.Free.XT
/-- WHAT COMES BACK, the byte[] as a list of values -/
def QA (Z : State) (x : Addr) (zn : Int32) (cs : List Int32) (h : Heap) (v : Option Value) (h' : Heap) (L : List Loc) : Prop := v = none ∧ (∀ y ∈ L, y.base = x) ∧ RoadKit.Keep h h' [x] ∧ h'.size = h.size + 1 ∧ RoadKit.Exa Z h' x ST ∧ RoadKit.Fld Z h' x ST "value" "[B" (.ref h.size) ∧ RoadKit.Fld Z h' x ST "coder" "B" (.int 0) ∧
  (∃ kb, Z.vm.findClass "[B" = some kb ∧ RoadKit.Arv Z h' h.size kb .byte zn (cs.map fun c => .int (lo8 c)) (.int 0)) ∧
  ∀ (O n d : String) (w : Value), RoadKit.Fld Z h x O n d w → RoadKit.slotOf Z O n d ≠ RoadKit.slotOf Z ST "value" "[B" → RoadKit.slotOf Z O n d ≠ RoadKit.slotOf Z ST "coder" "B" → RoadKit.Fld Z h' x O n d w
/-- **new String(chars) AT A CALL, THE ARRAYS AS LISTS**: the char[] at b holds cs, not empty, no char above 255 -/
theorem backArv {p : Program} {l : Launch} {e : Env} {R : Room} {s : State} {args : Array Value} {below : List Frame} {len W : Nat} {Z : State} {a0 : Array Value} {h : Heap} (hZ : Z.Warmed39 s.vm) (hw : ∀ d ∈ words, d.before a0 Z = true) {kI : Nat} (wi : (Jvm.Cond.instantiable ST kI).before a0 Z = true)
    {x b : Addr} {k : ClassId} {zn z : Int32} {cs : List Int32} {dv v0 c0 : Value} (E : RoadKit.Exa Z h x ST) (V : RoadKit.Fld Z h x ST "value" "[B" v0) (C : RoadKit.Fld Z h x ST "coder" "B" c0) (K : RoadKit.Arv Z h b k .char zn (cs.map Value.int) dv) (S : RoadKit.Sta Z h ST "COMPACT_STRINGS" "Z" (.int z)) (hz : ¬ z = 0)
    (hlen : zn.toNatClampNeg = cs.length) (h0 : 0 < cs.length) (hbig : cs.length ≤ 536870912) (hall : ∀ c ∈ cs, ¬ 255 < c) (hfr : 4 ≤ R.frames) (hlo : W + 65 ≤ R.locals) :
    Back l R p e below s args New1.yN len W (fun P a => a = #[.ref x, .ref b] ∧ P.U.heap = h ∧ P.cells + 1 ≤ R.cells ∧ P.slots + cs.length ≤ R.slots)
      (fun P _ v B => ∃ L, QA Z x zn cs h v B.U.heap L ∧ B.locs = P.locs ++ L ∧ B.cells = P.cells + 1 ∧ B.slots = P.slots + cs.length) := by
  obtain ⟨A, K1, K2, K3, K4, K5, K6⟩ := K
  have e : A.slots.size = cs.length := K3.trans hlen
  have hat : ∀ (i : Nat) (hi : i < cs.length), A.slots[i]? = some (.int cs[i]) := fun i hi => by rw [K5 i (by omega)]; simp [List.getD_eq_getElem?_getD, hi]
  have hcv : ∀ (i : Nat) (hi : i < cs.length), cv A i = cs[i] := fun i hi => by unfold cv; rw [hat i hi]
  have hty : Typed .char A := fun i v hv => by
    have hi : i < A.slots.size := (Array.getElem?_eq_some_iff.mp hv).1
    have q := K5 i hi
    rw [hv] at q
    rw [Option.some.inj q]
    exact K6 i hi
  refine Back.mono (back hZ hw wi E V C K1 hty S hz (by omega) (by omega) (fun i hi => by rw [hcv i (by omega)]; exact hall _ (List.getElem_mem _)) hfr hlo) (fun P a hp => ⟨hp.1, hp.2.1, hp.2.2.1, by rw [e]; exact hp.2.2.2⟩) (fun P a v B hp hq => ?_)
  obtain ⟨L, ⟨q1, q2, q3, q4, q5, q6, q7, ⟨V', v1, v2, v3, v4, v5⟩, q9⟩, hl, hc, hs⟩ := hq
  refine ⟨L, ⟨q1, q2, q3, q4, q5, q6, q7, ⟨V'.cls, v3, V', v1, rfl, by rw [v4, e, hlen], K4, fun i hi => ?_, fun i hi => ?_⟩, q9⟩, hl, hc, by rw [hs, e]⟩
  · have hi' : i < cs.length := by omega
    rw [v5 i (by omega), hcv i hi']; simp [List.getD_eq_getElem?_getD, hi']
  · have hi' : i < cs.length := by omega
    simp only [List.getD_eq_getElem?_getD, List.getElem?_map, List.getElem?_eq_getElem hi', Option.map_some, Option.getD_some]
    exact fits_lo8 _
end StrChars.Road
namespace StrChars.Road
open Jvm Sem ClassFile Op Lib Jvm.Stand Jvm.Free Jvm.Free.XT
/-- WHAT COMES BACK, in the writer's own shape -/
def QV (Z : State) (x : Addr) (N : Int32) (bs : List Int32) (h : Heap) (n0 : Nat) (v : Option Value) (h' : Heap) (L : List Loc) : Prop := v = none ∧ RoadKit.Fr n0 L ∧ RoadKit.Keep h h' [x] ∧ RoadKit.Exa Z h' x ST ∧ RoadKit.Fld Z h' x ST "coder" "B" (.int 0) ∧
  ∃ (t : Addr) (kb : ClassId), n0 ≤ t ∧ h.size ≤ t ∧ ¬ t = x ∧ RoadKit.Fld Z h' x ST "value" "[B" (.ref t) ∧ RoadKit.Arv Z h' t kb .byte N (bs.map Value.int) (.int 0)
/-- **new String(chars) AT A CALL, FOR THE WRITER**: a char[] of n known ints, each 0 to 255 -/
theorem backV {p : Program} {l : Launch} {e : Env} {R : Room} {s : State} {args : Array Value} {below : List Frame} {len W : Nat} {Z : State} {a0 : Array Value} {h : Heap} (hZ : Z.Warmed39 s.vm) (hw : ∀ d ∈ words, d.before a0 Z = true) {kI : Nat} (wi : (Jvm.Cond.instantiable ST kI).before a0 Z = true)
    {x b : Addr} {kC : ClassId} {cs bs : List Int32} {d v0 c0 : Value} {z N : Int32} {n n0 : Nat} (hx0 : n0 ≤ x) (hh0 : n0 ≤ h.size) (E : RoadKit.Exa Z h x ST) (V : RoadKit.Fld Z h x ST "value" "[B" v0) (C : RoadKit.Fld Z h x ST "coder" "B" c0) (K : RoadKit.Arv Z h b kC .char N (cs.map Value.int) d) (S : RoadKit.Sta Z h ST "COMPACT_STRINGS" "Z" (.int z)) (hz : ¬ z = 0)
    (hn : cs.length = n) (hN : N = Int32.ofNat n) (l0 : 0 < n) (l2 : n ≤ 4000) (hp : ∀ c ∈ cs, ¬ c < 0 ∧ ¬ (255 : Int32) < c) (hb : bs = cs.map (fun c => c.toInt8.toInt32)) (hfr : 4 ≤ R.frames) (hlo : W + 65 ≤ R.locals) :
    Back l R p e below s args (⟨"java/lang/String", "<init>", "([C)V"⟩ : MethodName) len W (fun P a => a = #[.ref x, .ref b] ∧ P.U.heap = h ∧ P.cells + 1 ≤ R.cells ∧ P.slots + n ≤ R.slots)
      (fun P _ v B => ∃ L, QV Z x N bs h n0 v B.U.heap L ∧ B.locs = P.locs ++ L ∧ B.cells = P.cells + 1 ∧ B.slots = P.slots + n) := by
  subst hn hN hb
  refine Back.mono (backArv hZ hw wi E V C K S hz (n32 (by omega)) l0 (by omega) (fun c hc => (hp c hc).2) hfr hlo) (fun P a hp => hp) (fun P a v B hp hq => ?_)
  obtain ⟨L, ⟨q1, q2, q3, q4, q5, q6, q7, ⟨kb, v1, v2⟩, q9⟩, hl, hc, hs⟩ := hq
  exact ⟨L, ⟨q1, fun y hy => by rw [q2 y hy]; exact hx0, q3, q5, q7, h.size, kb, hh0, Nat.le_refl _, Nat.ne_of_gt E.lt, q6, by rw [List.map_map]; exact v2⟩, hl, hc, hs⟩
end StrChars.Road
namespace StrChars
open Jvm Sem ClassFile Op Lib Jvm.Stand Jvm.Free.XT Jvm.Free.ALB Jvm.Free.JM Jvm.Free
open Jvm.Lib.Cold (StaticIs)
def hi8 (x : Int32) : Int32 := lo8 (x >>> ((8 : Int32) &&& 31))
/-- what StringUTF16.getChar makes of two bytes -/
def pairCh (u v : Int32) : Int32 := (((u &&& 255) <<< ((0 : Int32) &&& 31)) ||| ((v &&& 255) <<< ((8 : Int32) &&& 31))).toUInt32.toUInt16.toUInt32.toInt32
theorem lo8_and (x : Int32) : (lo8 x &&& 255).toBitVec.toNat = x.toBitVec.toNat % 256 := by
  have h : (lo8 x).toBitVec = (x.toBitVec.signExtend 8).signExtend 32 := by rw [lo8, Int8.toBitVec_toInt32, Int32.toBitVec_toInt8]
  rw [Int32.toBitVec_and, BitVec.toNat_and, h]
  have e : ((x.toBitVec.signExtend 8).signExtend 32).toNat % 256 = x.toBitVec.toNat % 256 := by
    rw [BitVec.toNat_signExtend]
    have hlt := x.toBitVec.isLt
    simp only [BitVec.toNat_setWidth, BitVec.toNat_signExtend]
    split <;> split <;> omega
  rw [← e]
  exact Nat.and_two_pow_sub_one_eq_mod _ 8
theorem pair_says {c : Int32} (h0 : ¬ c < 0) (h1 : ¬ 65535 < c) : pairCh (lo8 c) (hi8 c) = c := by
  rw [Int32.lt_iff_toInt_lt] at h0 h1
  have e0 : (0 : Int32).toInt = 0 := rfl
  have e1 : (65535 : Int32).toInt = 65535 := rfl
  have hc : c.toInt = c.toBitVec.toNat := by
    have := c.toBitVec.isLt
    have e : c.toInt = c.toBitVec.toInt := rfl
    rw [e] at h0 h1
    rw [e]
    rw [BitVec.toInt_eq_toNat_cond] at h0 h1 ⊢
    split at h0 <;> split <;> omega
  have hn : c.toBitVec.toNat < 65536 := by omega
  have a1 := lo8_and c
  have a2 : (hi8 c &&& 255).toBitVec.toNat = c.toBitVec.toNat / 256 := by
    rw [hi8, lo8_and]
    have e : ((8 : Int32) &&& 31) = 8 := by decide
    rw [e, Int32.toBitVec_shiftRight]
    have e2 : ((8 : Int32).toBitVec.smod 32) = 8#32 := by decide
    rw [e2, BitVec.sshiftRight_eq', BitVec.toNat_sshiftRight_of_msb_false (by rw [BitVec.msb_eq_false_iff_two_mul_lt]; omega)]
    show c.toBitVec.toNat >>> 8 % 256 = _
    rw [Nat.shiftRight_eq_div_pow]
    omega
  unfold pairCh
  apply Int32.toBitVec_inj.mp
  apply BitVec.eq_of_toNat_eq
  have f0 : ((0 : Int32) &&& 31) = 0 := by decide
  have f8 : ((8 : Int32) &&& 31) = 8 := by decide
  rw [f0, f8]
  have g : (((lo8 c &&& 255) <<< (0 : Int32)) ||| ((hi8 c &&& 255) <<< (8 : Int32))).toBitVec.toNat = c.toBitVec.toNat := by
    rw [Int32.toBitVec_or, Int32.toBitVec_shiftLeft, Int32.toBitVec_shiftLeft]
    have s0 : ((0 : Int32).toBitVec.smod 32) = 0#32 := by decide
    have s8 : ((8 : Int32).toBitVec.smod 32) = 8#32 := by decide
    rw [s0, s8, BitVec.toNat_or]
    simp only [BitVec.shiftLeft_eq', BitVec.toNat_shiftLeft, a1, a2]
    show (c.toBitVec.toNat % 256) <<< 0 % 2 ^ 32 ||| (c.toBitVec.toNat / 256) <<< 8 % 2 ^ 32 = _
    rw [Nat.shiftLeft_zero, Nat.mod_eq_of_lt (show c.toBitVec.toNat % 256 < 2 ^ 32 by omega), Nat.mod_eq_of_lt (show (c.toBitVec.toNat / 256) <<< 8 < 2 ^ 32 by rw [Nat.shiftLeft_eq]; omega), Nat.or_comm, ← Nat.shiftLeft_add_eq_or_of_lt (by omega), Nat.shiftLeft_eq]
    omega
  show BitVec.toNat (((((lo8 c &&& 255) <<< (0 : Int32)) ||| ((hi8 c &&& 255) <<< (8 : Int32))).toBitVec.setWidth 16).setWidth 32) = _
  rw [BitVec.toNat_setWidth, BitVec.toNat_setWidth, g]
  omega
end StrChars
namespace StrChars
open Jvm Sem ClassFile Op Lib Jvm.Stand Jvm.Free.XT Jvm.Free.ALB Jvm.Free.JM Jvm.Free
open Jvm.Lib.Cold (StaticIs)
/-- the array's cell V codes the n chars f 0 .. f (n - 1) by the coder cd, as the JDK does: coder 1 just where some char is above 255 -/
def Cod (cd : Int32) (n : Nat) (f : Nat → Int32) (V : Cell) : Prop := (cd = 0 ∧ V.slots.size = n ∧ ∀ j, j < n → V.slots[j]? = some (.int (lo8 (f j))) ∧ ¬ 255 < f j) ∨ (cd = 1 ∧ V.slots.size = 2 * n ∧ (∀ j, j < n → V.slots[2 * j]? = some (.int (lo8 (f j))) ∧ V.slots[2 * j + 1]? = some (.int (hi8 (f j)))) ∧ ∃ j, j < n ∧ 255 < f j)
/-- **x is a String of the n chars f 0 .. f (n - 1)**, Latin-1 or UTF-16; its array at t has the cell V -/
def Txt (x t : Addr) (V : Cell) (cd : Int32) (n : Nat) (f : Nat → Int32) (U : State) : Prop := Exact "java/lang/String" x U ∧ Has x "java/lang/String" "value" "[B" (.ref t) U ∧ Has x "java/lang/String" "coder" "B" (.int cd) U ∧ XT.Arr .byte t V U ∧ Cod cd n f V ∧ ∀ j, j < n → ¬ f j < 0 ∧ ¬ 65535 < f j
theorem Txt.mv {x t : Addr} {V : Cell} {cd : Int32} {n : Nat} {f : Nat → Int32} {U U' : State} (h : Txt x t V cd n f U) (hal : U.vm.Alike U'.vm) (hh : U'.heap = U.heap) : Txt x t V cd n f U' := ⟨h.1.mv hal hh, h.2.1.mv hal hh, h.2.2.1.mv hal hh, h.2.2.2.1.mv hal hh, h.2.2.2.2⟩
end StrChars
namespace StrChars.Road
open Jvm Sem ClassFile Op Lib Jvm.Stand Jvm.Free Jvm.Free.XT
open Jvm.Lib.Cold (StaticIs)
theorem consq {a : Array Value} {s : State} {c : Jvm.Cond} {L : List Jvm.Cond} (h0 : c.before a s = true) (h : ∀ w ∈ L, w.before a s = true) : ∀ w ∈ c :: L, w.before a s = true := fun w hw => (List.mem_cons.mp hw).elim (fun e => e ▸ h0) (h w)
/-- the bytes of the chars cs, low before high -/
def wideBytes : List Int32 → List Value
  | [] => []
  | c :: cs => .int (lo8 c) :: .int (hi8 c) :: wideBytes cs
theorem wide_lo (d : Value) : ∀ (cs : List Int32) (j : Nat), j < cs.length → (wideBytes cs).getD (2 * j) d = .int (lo8 (cs.getD j 0))
  | [], j, h => absurd h (Nat.not_lt_zero j)
  | c :: cs, 0, _ => rfl
  | c :: cs, j + 1, h => by
    have q := wide_lo d cs j (by simpa using h)
    rw [show 2 * (j + 1) = 2 * j + 1 + 1 from by omega]
    simpa [wideBytes] using q
theorem wide_hi (d : Value) : ∀ (cs : List Int32) (j : Nat), j < cs.length → (wideBytes cs).getD (2 * j + 1) d = .int (hi8 (cs.getD j 0))
  | [], j, h => absurd h (Nat.not_lt_zero j)
  | c :: cs, 0, _ => rfl
  | c :: cs, j + 1, h => by
    have q := wide_hi d cs j (by simpa using h)
    rw [show 2 * (j + 1) + 1 = 2 * j + 1 + 1 + 1 from by omega]
    simpa [wideBytes] using q
theorem low_at (d : Value) (cs : List Int32) (j : Nat) (h : j < cs.length) : (cs.map fun c => Value.int (lo8 c)).getD j d = .int (lo8 (cs.getD j 0)) := by
  simp [List.getD_eq_getElem?_getD, h]
/-- an array of N2 bytes vs codes the chars cs by the coder cd -/
def CodA (cs : List Int32) (cd N2 : Int32) (vs : List Value) : Prop := (cd = 0 ∧ N2 = Int32.ofNat cs.length ∧ vs = (cs.map fun c => Value.int (lo8 c)) ∧ ∀ c ∈ cs, ¬ 255 < c) ∨ (cd = 1 ∧ N2 = Int32.ofNat (2 * cs.length) ∧ vs = wideBytes cs ∧ ∃ c ∈ cs, 255 < c)
theorem CodA.cod {cs : List Int32} {cd N2 : Int32} {vs : List Value} {V : Cell} (h : CodA cs cd N2 vs) (hn : 2 * cs.length < 2 ^ 31) (hs : V.slots.size = N2.toNatClampNeg) (hv : RoadKit.Has V vs (.int 0)) : Cod cd cs.length (fun j => cs.getD j 0) V := by
  rcases h with ⟨rfl, rfl, rfl, h⟩ | ⟨rfl, rfl, rfl, c, hc, hw⟩
  · rw [n32 (by omega)] at hs
    exact Or.inl ⟨rfl, hs, fun j hj => ⟨by rw [hv j (by omega), low_at _ _ _ hj], by
      have e : cs.getD j 0 = cs[j] := by simp [List.getD_eq_getElem?_getD, hj]
      show ¬ 255 < cs.getD j 0
      rw [e]; exact h _ (List.getElem_mem _)⟩⟩
  · rw [n32 (by omega)] at hs
    obtain ⟨j, hj, rfl⟩ := List.getElem_of_mem hc
    exact Or.inr ⟨rfl, hs, fun j hj => ⟨by rw [hv _ (by omega), wide_lo _ _ _ hj], by rw [hv _ (by omega), wide_hi _ _ _ hj]⟩, j, hj, by
      have e : cs.getD j 0 = cs[j] := by simp [List.getD_eq_getElem?_getD, hj]
      show 255 < cs.getD j 0
      rw [e]; exact hw⟩
/-- an object of exactly java/lang/String, its two fields found: as the laws ask it -/
theorem strObj {Z U : State} {a0 : Array Value} {kI : Nat} (wi : (Jvm.Cond.instantiable ST kI).before a0 Z = true) (al : Z.vm.Alike U.vm) {x : Addr} {v0 c0 : Value} (E : RoadKit.Exa Z U.heap x ST) (V : RoadKit.Fld Z U.heap x ST "value" "[B" v0) (C : RoadKit.Fld Z U.heap x ST "coder" "B" c0) :
    ∃ (D : Cell) (fV fC : Field), Blank ST x D U ∧ Found ST "value" "[B" fV U ∧ Found ST "coder" "B" fC U ∧ D.slots[fV.slot]? = some v0 ∧ D.slots[fC.slot]? = some c0 ∧ RoadKit.slotOf Z ST "value" "[B" = fV.slot ∧ RoadKit.slotOf Z ST "coder" "B" = fC.slot := by
  obtain ⟨D, cfV, kV, iV, fV, hD, gV, stV, knV, obV, asV, slV⟩ := V
  obtain ⟨D', cfC, kC, iC, fC, hD', gC, stC, -, -, asC, slC⟩ := C
  cases hD.symm.trans hD'
  obtain ⟨D2, kD, e1, e2, e3, e4, e5⟩ := E
  cases hD.symm.trans e1
  obtain ⟨c2, k2, i1, i2, i3, -⟩ := Cond.instantiable_spec wi
  cases e2.symm.trans i1
  cases e3.symm.trans i2
  obtain ⟨kU, u1, u2⟩ := al.2.2 _ _ e3
  exact ⟨D, fV, fC, ⟨hD, ⟨knV, fun q hq => by rw [hq] at obV; cases obV⟩, by rw [al.findClass]; exact e2, kU, u1, by rw [u2]; exact i3, by rw [u2]; exact e5 i3⟩, ⟨SBG.found_only al ⟨cfV, kV, iV, gV⟩, stV⟩, ⟨SBG.found_only al ⟨cfC, kC, iC, gC⟩, stC⟩, slV, slC, by simp [RoadKit.slotOf, gV], by simp [RoadKit.slotOf, gC]⟩
theorem sta_is {Z U : State} (al : Z.vm.Alike U.vm) {C n d : String} {v : Value} (S : RoadKit.Sta Z U.heap C n d v) : StaticIs U C n d v := by
  obtain ⟨cfS, iS, kS, fS, st, cS, t1, t2, t3, t4, t5, t6, t7⟩ := S
  exact StaticIs.there (s := { Z with heap := U.heap }) ⟨cfS, iS, kS, fS, st, cS, t1, t2, t3, t4, t5, (fun q => by rw [q] at t6; cases t6), t7⟩ al rfl
end StrChars.Road
namespace StrChars
open Jvm Sem ClassFile Op Lib Jvm.Stand Jvm.Free.XT Jvm.Free.ALB Jvm.Free.JM Jvm.Free
open Jvm.Lib.Cold (StaticIs)
/-- what place i of a byte[]'s cell holds -/
def yv (A : Cell) (i : Nat) : Int32 := match A.slots[i]? with | some (.int x) => x | _ => 0
theorem yv_get {a : Addr} {A : Cell} {U : State} (h : XT.Arr .byte a A U) (ht : Typed .byte A) {i : Nat} (hi : i < A.slots.size) : A.slots[i]? = some (.int (yv A i)) := by
  have e := Array.getElem?_eq_getElem hi
  have f := ht i _ e
  unfold yv; rw [e]
  generalize A.slots[i] = v at f
  cases v <;> simp [fits] at f ⊢
/-- the two arrays are equal, place for place -/
def EqC (A B : Cell) : Prop := A.slots.size = B.slots.size ∧ ∀ i, i < A.slots.size → yv A i = yv B i
/-- a boolean that says whether p -/
def Says01 (q : Prop) (r : Option Value) (s u : State) : Prop := ∃ v : Int32, r = some (.int v) ∧ u.heap = s.heap ∧ ((v = 1 ∧ q) ∨ (v = 0 ∧ ¬ q))
theorem Says01.mv {q : Prop} : ∀ r (U U' V V' : State), U'.heap = U.heap → V.vm.Alike V'.vm → V'.heap = V.heap → Says01 q r U V → Says01 q r U' V' :=
  fun r U U' V V' h1 _ h2 ⟨v, a, b, c⟩ => ⟨v, a, by rw [h1, h2]; exact b, c⟩
namespace LEq
def yN : MethodName := ⟨"java/lang/StringLatin1", "equals", "([B[B)Z"⟩
abbrev yB : ByteArray := jdk_43_method_13_code
theorem d0 : decode yB 0 = .ok (.aload_n 0, 1) := by decide +kernel
theorem d1 : decode yB 1 = .ok (.arraylength, 1) := by decide +kernel
theorem d2 : decode yB 2 = .ok (.aload_n 1, 1) := by decide +kernel
theorem d3 : decode yB 3 = .ok (.arraylength, 1) := by decide +kernel
theorem d4 : decode yB 4 = .ok (.if_icmp (.ne) 30, 3) := by decide +kernel
theorem d7 : decode yB 7 = .ok (.iconst 0, 1) := by decide +kernel
theorem d8 : decode yB 8 = .ok (.istore_n 2, 1) := by decide +kernel
theorem d9 : decode yB 9 = .ok (.iload_n 2, 1) := by decide +kernel
theorem d10 : decode yB 10 = .ok (.aload_n 0, 1) := by decide +kernel
theorem d11 : decode yB 11 = .ok (.arraylength, 1) := by decide +kernel
theorem d12 : decode yB 12 = .ok (.if_icmp (.ge) 20, 3) := by decide +kernel
theorem d15 : decode yB 15 = .ok (.aload_n 0, 1) := by decide +kernel
theorem d16 : decode yB 16 = .ok (.iload_n 2, 1) := by decide +kernel
theorem d17 : decode yB 17 = .ok (.baload, 1) := by decide +kernel
theorem d18 : decode yB 18 = .ok (.aload_n 1, 1) := by decide +kernel
theorem d19 : decode yB 19 = .ok (.iload_n 2, 1) := by decide +kernel
theorem d20 : decode yB 20 = .ok (.baload, 1) := by decide +kernel
theorem d21 : decode yB 21 = .ok (.if_icmp (.eq) 5, 3) := by decide +kernel
theorem d24 : decode yB 24 = .ok (.iconst 0, 1) := by decide +kernel
theorem d25 : decode yB 25 = .ok (.ireturn, 1) := by decide +kernel
theorem d26 : decode yB 26 = .ok (.iinc 2 1, 3) := by decide +kernel
theorem d29 : decode yB 29 = .ok (.goto (-20), 3) := by decide +kernel
theorem d32 : decode yB 32 = .ok (.iconst 1, 1) := by decide +kernel
theorem d33 : decode yB 33 = .ok (.ireturn, 1) := by decide +kernel
theorem d34 : decode yB 34 = .ok (.iconst 0, 1) := by decide +kernel
theorem d35 : decode yB 35 = .ok (.ireturn, 1) := by decide +kernel
def site : List Cond := []
def tab : Cond := tabOf yN yB 3 (some .boolean) site
def P (a : Addr) (A : Cell) (b : Addr) (B : Cell) (args : Array Value) (s : State) : Prop := args = #[.ref a, .ref b] ∧ XT.Arr .byte a A s ∧ Typed .byte A ∧ XT.Arr .byte b B s ∧ Typed .byte B
/-- whether two byte[] are equal, place for place -/
theorem law (l : Launch) (a : Addr) (A : Cell) (b : Addr) (B : Cell) : Law l yN 2 2 0 0 yB 3 (some .boolean) site (P a A b B) (Says01 (EqC A B)) [] 0 0 := by
  refine Law.of_walk (plainFor_of_name (by decide +kernel)) (by decide +kernel) (by decide +kernel) (by decide) (fun _ _ h => by rw [h.1]; rfl) (fun _ U U' hal hh h => ⟨h.1, h.2.1.mv hal hh, h.2.2.1, h.2.2.2.1.mv hal hh, h.2.2.2.2⟩) (fun r U U' V V' h1 hal h2 h => Says01.mv r U U' V V' h1 hal h2 h) ?_
  intro p e s m args below meth c s₁ X0 hexec hbytes hml hret hlk hnm hown hh0 W hP
  obtain ⟨rfl, hA, tA, hB, tB⟩ := hP
  have a31 := hA.2.2.2
  have b31 := hB.2.2.2
  have hA0 := hA.mv X0.warmed.alike hh0
  have hB0 := hB.mv X0.warmed.alike hh0
  have c1 : Steps p.tables e below (s₁.setTop (entryFrame m #[.ref a, .ref b] 3)) (s₁.setTop (mkF m 0 #[.val (.ref a), .val (.ref b), .unset] [])) := entry rfl
  have c2 : Steps p.tables e below (s₁.setTop (entryFrame m #[.ref a, .ref b] 3)) (s₁.setTop (mkF m 4 #[.val (.ref a), .val (.ref b), .unset] [.int (Int32.ofNat B.slots.size), .int (Int32.ofNat A.slots.size)])) := c1.trans (by
    refine XS.aloadN X0.here hexec rfl (hb hbytes d0) rfl rfl ?_
    refine X0.alen hexec hA0 rfl rfl (hb hbytes d1) ?_
    refine XS.aloadN X0.here hexec rfl (hb hbytes d2) rfl rfl ?_
    refine X0.alen hexec hB0 rfl rfl (hb hbytes d3) ?_
    exact Steps.refl _)
  by_cases hs : A.slots.size = B.slots.size
  · have c3 : Steps p.tables e below (s₁.setTop (entryFrame m #[.ref a, .ref b] 3)) (s₁.setTop (mkF m 9 #[.val (.ref a), .val (.ref b), .val (.int 0)] [])) := c2.trans (by
      refine XS.icmpNo X0.here hexec rfl (hb hbytes d4) rfl (ii_ne_f (by rw [hs])) ?_
      refine iconstV X0.here hexec rfl 0 (hb hbytes d7) (by decide) ?_
      refine XS.istoreN X0.here hexec rfl (hb hbytes d8) rfl rfl ?_
      exact Steps.refl _)
    have loop : ∀ (r i : Nat), i + r = A.slots.size → (∀ j, j < i → yv A j = yv B j) → Steps p.tables e below (s₁.setTop (entryFrame m #[.ref a, .ref b] 3)) (s₁.setTop (mkF m 9 #[.val (.ref a), .val (.ref b), .val (.int (Int32.ofNat i))] [])) → ∃ (pc : Nat) (Ls : Array Slot) (v : Int32), (pc = 25 ∨ pc = 33) ∧ ((v = 1 ∧ EqC A B) ∨ (v = 0 ∧ ¬ EqC A B)) ∧ Steps p.tables e below (s₁.setTop (entryFrame m #[.ref a, .ref b] 3)) (s₁.setTop (mkF m pc Ls [.int v])) := by
      intro r
      induction r with
      | zero =>
        intro i hi he cl
        exact ⟨33, _, 1, Or.inr rfl, Or.inl ⟨rfl, hs, fun j hj => he j (by omega)⟩, cl.trans (by
          refine XS.iloadN X0.here hexec rfl (hb hbytes d9) rfl ?_
          refine XS.aloadN X0.here hexec rfl (hb hbytes d10) rfl rfl ?_
          refine X0.alen hexec hA0 rfl rfl (hb hbytes d11) ?_
          refine XS.icmpYes X0.here hexec rfl (pc0 := 12) rfl (hb hbytes d12) rfl (ii_ge_t (nlt32 (by omega) (by omega))) (by decide) rfl ?_
          refine iconstV X0.here hexec rfl 1 (hb hbytes d32) (by decide) ?_
          exact Steps.refl _)⟩
      | succ r ih =>
        intro i hi he cl
        have c4 : Steps p.tables e below (s₁.setTop (entryFrame m #[.ref a, .ref b] 3)) (s₁.setTop (mkF m 21 #[.val (.ref a), .val (.ref b), .val (.int (Int32.ofNat i))] [.int (yv B i), .int (yv A i)])) := cl.trans (by
          refine XS.iloadN X0.here hexec rfl (hb hbytes d9) rfl ?_
          refine XS.aloadN X0.here hexec rfl (hb hbytes d10) rfl rfl ?_
          refine X0.alen hexec hA0 rfl rfl (hb hbytes d11) ?_
          refine XS.icmpNo X0.here hexec rfl (hb hbytes d12) rfl (ii_ge_f (lt32 (by omega) (by omega))) ?_
          refine XS.aloadN X0.here hexec rfl (hb hbytes d15) rfl rfl ?_
          refine XS.iloadN X0.here hexec rfl (hb hbytes d16) rfl ?_
          refine X0.aget hexec hA0 rfl (yv_get hA tA (i := i) (by omega)) rfl rfl (hb hbytes d17) ?_
          refine XS.aloadN X0.here hexec rfl (hb hbytes d18) rfl rfl ?_
          refine XS.iloadN X0.here hexec rfl (hb hbytes d19) rfl ?_
          refine X0.aget hexec hB0 rfl (yv_get hB tB (i := i) (by omega)) rfl rfl (hb hbytes d20) ?_
          exact Steps.refl _)
        by_cases hv : yv A i = yv B i
        · have c5 : Steps p.tables e below (s₁.setTop (entryFrame m #[.ref a, .ref b] 3)) (s₁.setTop (mkF m 9 #[.val (.ref a), .val (.ref b), .val (.int (Int32.ofNat i + 1))] [])) := c4.trans (by
            refine XS.icmpYes X0.here hexec rfl (pc0 := 21) rfl (hb hbytes d21) rfl (ii_eq_t hv) (by decide) rfl ?_
            refine iincV X0.here hexec rfl 1 (hb hbytes d26) (by decide) rfl rfl ?_
            refine XS.goto X0.here hexec rfl (pc0 := 29) rfl (hb hbytes d29) (by decide) rfl ?_
            exact Steps.refl _)
          rw [succ32] at c5
          exact ih (i + 1) (by omega) (fun j hj => by
            by_cases e : j = i
            · rw [e]; exact hv
            · exact he j (by omega)) c5
        · exact ⟨25, _, 0, Or.inl rfl, Or.inr ⟨rfl, fun q => hv (q.2 i (by omega))⟩, c4.trans (by
            refine XS.icmpNo X0.here hexec rfl (hb hbytes d21) rfl (ii_eq_f hv) ?_
            refine iconstV X0.here hexec rfl 0 (hb hbytes d24) (by decide) ?_
            exact Steps.refl _)⟩
    obtain ⟨pc, Ls, v, hpc, hv, cz⟩ := loop A.slots.size 0 (by omega) (fun j hj => absurd hj (Nat.not_lt_zero j)) c3
    have nv : narrow .boolean (.int v) = .int v := by rcases hv with ⟨rfl, -⟩ | ⟨rfl, -⟩ <;> rfl
    rcases hpc with rfl | rfl
    · exact ⟨s₁, some (.int v), _, _, _, X0, rfl, rfl, rfl, (fun h => by cases h), ⟨v, rfl, hh0, hv⟩, fun fs hl => cz.trans (X0.ireturnOut hexec hret nv (Or.inr (Or.inl rfl)) (hb hbytes d25) hl)⟩
    · exact ⟨s₁, some (.int v), _, _, _, X0, rfl, rfl, rfl, (fun h => by cases h), ⟨v, rfl, hh0, hv⟩, fun fs hl => cz.trans (X0.ireturnOut hexec hret nv (Or.inr (Or.inl rfl)) (hb hbytes d33) hl)⟩
  · have c3 : Steps p.tables e below (s₁.setTop (entryFrame m #[.ref a, .ref b] 3)) (s₁.setTop (mkF m 35 #[.val (.ref a), .val (.ref b), .unset] [.int 0])) := c2.trans (by
      refine XS.icmpYes X0.here hexec rfl (pc0 := 4) rfl (hb hbytes d4) rfl (ii_ne_t (ne32 a31 b31 hs)) (by decide) rfl ?_
      refine iconstV X0.here hexec rfl 0 (hb hbytes d34) (by decide) ?_
      exact Steps.refl _)
    exact ⟨s₁, some (.int 0), _, _, _, X0, rfl, rfl, rfl, (fun h => by cases h), ⟨0, rfl, hh0, Or.inr ⟨rfl, fun q => hs q.1⟩⟩, fun fs hl => c3.trans (X0.ireturnOut hexec hret rfl (Or.inr (Or.inl rfl)) (hb hbytes d35) hl)⟩
end LEq
theorem Cod.ty {cd : Int32} {n : Nat} {f : Nat → Int32} {V : Cell} (h : Cod cd n f V) : Typed .byte V := fun i v hv => by
  have hi : i < V.slots.size := (Array.getElem?_eq_some_iff.mp hv).1
  rcases h with ⟨-, k1, k2⟩ | ⟨-, k1, k2, -⟩
  · rw [(k2 i (by omega)).1] at hv; cases hv; exact fits_lo8 _
  · rcases Nat.mod_two_eq_zero_or_one i with e | e
    · obtain ⟨j, rfl⟩ : ∃ j, i = 2 * j := ⟨i / 2, by omega⟩
      rw [(k2 j (by omega)).1] at hv; cases hv; exact fits_lo8 _
    · obtain ⟨j, rfl⟩ : ∃ j, i = 2 * j + 1 := ⟨i / 2, by omega⟩
      rw [(k2 j (by omega)).2] at hv; cases hv; exact fits_lo8 _
/-- the same text -/
def SameT (n : Nat) (f : Nat → Int32) (k : Nat) (g : Nat → Int32) : Prop := n = k ∧ ∀ j, j < n → f j = g j
theorem lo8_inj {x y : Int32} (h0 : ¬ x < 0) (h1 : ¬ 255 < x) (k0 : ¬ y < 0) (k1 : ¬ 255 < y) (h : lo8 x = lo8 y) : x = y := by
  rw [← lo8_mask h0 h1, ← lo8_mask k0 k1, h]
/-- arrays coded by one coder are equal just where the texts are -/
theorem Cod.eqv {cd : Int32} {n k : Nat} {f g : Nat → Int32} {V V' : Cell} (h : Cod cd n f V) (h' : Cod cd k g V') (hf : ∀ j, j < n → ¬ f j < 0 ∧ ¬ 65535 < f j) (hg : ∀ j, j < k → ¬ g j < 0 ∧ ¬ 65535 < g j) : EqC V V' ↔ SameT n f k g := by
  have yvv : ∀ {W : Cell} {i : Nat} {x : Int32}, W.slots[i]? = some (.int x) → yv W i = x := fun q => by unfold yv; rw [q]
  rcases h with ⟨rfl, k1, k2⟩ | ⟨rfl, k1, k2, -⟩
  · rcases h' with ⟨-, m1, m2⟩ | ⟨e, -⟩
    · constructor
      · rintro ⟨e1, e2⟩
        refine ⟨by omega, fun j hj => ?_⟩
        have q := e2 j (by omega)
        rw [yvv (k2 j hj).1, yvv (m2 j (by omega)).1] at q
        exact lo8_inj (hf j hj).1 (k2 j hj).2 (hg j (by omega)).1 (m2 j (by omega)).2 q
      · rintro ⟨rfl, e2⟩
        refine ⟨by omega, fun j hj => ?_⟩
        rw [yvv (k2 j (by omega)).1, yvv (m2 j (by omega)).1, e2 j (by omega)]
    · exact absurd e (by decide)
  · rcases h' with ⟨e, -⟩ | ⟨-, m1, m2, -⟩
    · exact absurd e (by decide)
    · constructor
      · rintro ⟨e1, e2⟩
        refine ⟨by omega, fun j hj => ?_⟩
        have q1 := e2 (2 * j) (by omega)
        have q2 := e2 (2 * j + 1) (by omega)
        rw [yvv (k2 j hj).1, yvv (m2 j (by omega)).1] at q1
        rw [yvv (k2 j hj).2, yvv (m2 j (by omega)).2] at q2
        rw [← pair_says (hf j hj).1 (hf j hj).2, ← pair_says (hg j (by omega)).1 (hg j (by omega)).2, q1, q2]
      · rintro ⟨rfl, e2⟩
        refine ⟨by omega, fun i hi => ?_⟩
        rcases Nat.mod_two_eq_zero_or_one i with e | e
        · obtain ⟨j, rfl⟩ : ∃ j, i = 2 * j := ⟨i / 2, by omega⟩
          rw [yvv (k2 j (by omega)).1, yvv (m2 j (by omega)).1, e2 j (by omega)]
        · obtain ⟨j, rfl⟩ : ∃ j, i = 2 * j + 1 := ⟨i / 2, by omega⟩
          rw [yvv (k2 j (by omega)).2, yvv (m2 j (by omega)).2, e2 j (by omega)]
/-- two codings differ: so do the texts -/
theorem Cod.dif {cd cd' : Int32} {n k : Nat} {f g : Nat → Int32} {V V' : Cell} (h : Cod cd n f V) (h' : Cod cd' k g V') (hne : ¬ cd = cd') : ¬ SameT n f k g := by
  rintro ⟨rfl, e⟩
  rcases h with ⟨rfl, -, k2⟩ | ⟨rfl, -, -, j, hj, hw⟩
  · rcases h' with ⟨rfl, -⟩ | ⟨-, -, -, j, hj, hw⟩
    · exact hne rfl
    · exact (k2 j hj).2 (by rw [e j hj]; exact hw)
  · rcases h' with ⟨-, -, m2⟩ | ⟨rfl, -⟩
    · exact (m2 j hj).2 (by rw [← e j hj]; exact hw)
    · exact hne rfl
/-- an object of exactly C is an instance of C -/
theorem cinst {p : Program} {l : Launch} {e : Env} {R : Room} {s : State} {m : MethodId} {args : Array Value} {below : List Frame} {meth : Method} {c : Code} {T : State} {locs : List Loc} {cells slots : Nat} (X : Stand p l e R s m args below meth c T locs cells slots) (hexec : p.tables.exec = Jvm.exec) {own C : String} {index : Nat} (hown : s.vm.findClass own = some m.cls) (hlink : (Cond.classLink own index C).before args s = true) {a : Addr} (hE : Exact C a T)
    {g : JFrame} (hg : g.method = m) {rest : List Value} (hstack : g.stack = .ref a :: rest) (hdg : decode c.code g.pc = .ok (.instanceof index, 3)) :
    ∃ T', Stand p l e R s m args below meth c T' locs cells slots ∧ T'.heap = T.heap ∧ ∀ target, Steps p.tables e below (T'.setTop { g with pc := g.pc + 3, stack := .int 1 :: rest }) target → Steps p.tables e below (T.setTop g) target := by
  obtain ⟨cB, h1, D, h2, h3, h4⟩ := hE
  have h1' : s.vm.findClass C = some cB := by rw [← X.warmed.alike.findClass]; exact h1
  obtain ⟨vm', X', st⟩ := X.instanceofYes hexec hown hlink h2 h4 h1' (by rw [h3]; exact Jvm.Free.SB.assignable_self _ _) hg hstack hdg
  exact ⟨_, X', rfl, st⟩
theorem cself {p : Program} {l : Launch} {e : Env} {R : Room} {s : State} {m : MethodId} {args : Array Value} {below : List Frame} {meth : Method} {c : Code} {T : State} {locs : List Loc} {cells slots : Nat} (X : Stand p l e R s m args below meth c T locs cells slots) (hexec : p.tables.exec = Jvm.exec) {own C : String} {index : Nat} (hown : s.vm.findClass own = some m.cls) (hlink : (Cond.classLink own index C).before args s = true) {a : Addr} (hE : Exact C a T)
    {g : JFrame} (hg : g.method = m) {rest : List Value} (hstack : g.stack = .ref a :: rest) (hdg : decode c.code g.pc = .ok (.checkcast index, 3)) :
    ∃ T', Stand p l e R s m args below meth c T' locs cells slots ∧ T'.heap = T.heap ∧ ∀ target, Steps p.tables e below (T'.setTop { g with pc := g.pc + 3, stack := .ref a :: rest }) target → Steps p.tables e below (T.setTop g) target := by
  obtain ⟨cB, h1, D, h2, h3, h4⟩ := hE
  have h1' : s.vm.findClass C = some cB := by rw [← X.warmed.alike.findClass]; exact h1
  obtain ⟨vm', X', st⟩ := X.checkcastYes hexec hown hlink h2 h4 h1' (by rw [h3]; exact Jvm.Free.SB.assignable_self _ _) hg hstack hdg
  exact ⟨_, X', rfl, fun t h => st t (by rw [← hstack] at h; exact h)⟩
namespace SEq
def yN : MethodName := ⟨"java/lang/String", "equals", "(Ljava/lang/Object;)Z"⟩
abbrev yB : ByteArray := jdk_42_method_66_code
theorem d0 : decode yB 0 = .ok (.aload_n 0, 1) := by decide +kernel
theorem d1 : decode yB 1 = .ok (.aload_n 1, 1) := by decide +kernel
theorem d2 : decode yB 2 = .ok (.if_acmp (.ne) 5, 3) := by decide +kernel
theorem d5 : decode yB 5 = .ok (.iconst 1, 1) := by decide +kernel
theorem d6 : decode yB 6 = .ok (.ireturn, 1) := by decide +kernel
theorem d7 : decode yB 7 = .ok (.aload_n 1, 1) := by decide +kernel
theorem d8 : decode yB 8 = .ok (.instanceof 10, 3) := by decide +kernel
theorem d11 : decode yB 11 = .ok (.ifCond (.eq) 43, 3) := by decide +kernel
theorem d14 : decode yB 14 = .ok (.aload_n 1, 1) := by decide +kernel
theorem d15 : decode yB 15 = .ok (.checkcast 10, 3) := by decide +kernel
theorem d18 : decode yB 18 = .ok (.astore_n 2, 1) := by decide +kernel
theorem d19 : decode yB 19 = .ok (.getstatic 38, 3) := by decide +kernel
theorem d22 : decode yB 22 = .ok (.ifCond (.eq) 14, 3) := by decide +kernel
theorem d25 : decode yB 25 = .ok (.aload_n 0, 1) := by decide +kernel
theorem d26 : decode yB 26 = .ok (.getfield 15, 3) := by decide +kernel
theorem d29 : decode yB 29 = .ok (.aload_n 2, 1) := by decide +kernel
theorem d30 : decode yB 30 = .ok (.getfield 15, 3) := by decide +kernel
theorem d33 : decode yB 33 = .ok (.if_icmp (.ne) 21, 3) := by decide +kernel
theorem d36 : decode yB 36 = .ok (.aload_n 0, 1) := by decide +kernel
theorem d37 : decode yB 37 = .ok (.getfield 9, 3) := by decide +kernel
theorem d40 : decode yB 40 = .ok (.aload_n 2, 1) := by decide +kernel
theorem d41 : decode yB 41 = .ok (.getfield 9, 3) := by decide +kernel
theorem d44 : decode yB 44 = .ok (.invokestatic 541, 3) := by decide +kernel
theorem d47 : decode yB 47 = .ok (.ifCond (.eq) 7, 3) := by decide +kernel
theorem d50 : decode yB 50 = .ok (.iconst 1, 1) := by decide +kernel
theorem d51 : decode yB 51 = .ok (.goto 4, 3) := by decide +kernel
theorem d54 : decode yB 54 = .ok (.iconst 0, 1) := by decide +kernel
theorem d55 : decode yB 55 = .ok (.ireturn, 1) := by decide +kernel
def site : List Cond := [.classLink "java/lang/String" 10 "java/lang/String", .fieldLink "java/lang/String" 38 "java/lang/String" "COMPACT_STRINGS" "Z", .fieldLink "java/lang/String" 15 "java/lang/String" "coder" "B", .fieldLink "java/lang/String" 9 "java/lang/String" "value" "[B", LEq.tab] ++ staticW "java/lang/String" 541 LEq.yN
def tab : Cond := tabOf yN yB 3 (some .boolean) site
def P (x t : Addr) (V : Cell) (cd : Int32) (n : Nat) (f : Nat → Int32) (y t' : Addr) (V' : Cell) (cd' : Int32) (k : Nat) (g : Nat → Int32) (z : Int32) (args : Array Value) (s : State) : Prop := args = #[.ref x, .ref y] ∧ Txt x t V cd n f s ∧ Txt y t' V' cd' k g s ∧ StaticIs s "java/lang/String" "COMPACT_STRINGS" "Z" (.int z) ∧ ¬ z = 0
/-- equals(Object) of two Strings: whether the texts are the same -/
theorem law (l : Launch) (x t : Addr) (V : Cell) (cd : Int32) (n : Nat) (f : Nat → Int32) (y t' : Addr) (V' : Cell) (cd' : Int32) (k : Nat) (g : Nat → Int32) (z : Int32) : Law l yN 2 1 1 14 yB 3 (some .boolean) site (P x t V cd n f y t' V' cd' k g z) (Says01 (SameT n f k g)) [] 0 0 := by
  refine Law.of_walk (plainFor_of_name (by decide +kernel)) (by decide +kernel) (by decide +kernel) (by decide) (fun _ _ h => by rw [h.1]; rfl) (fun _ U U' hal hh h => ⟨h.1, h.2.1.mv hal hh, h.2.2.1.mv hal hh, h.2.2.2.1.there hal hh, h.2.2.2.2⟩) (fun r U U' V V' h1 hal h2 h => Says01.mv r U U' V V' h1 hal h2 h) ?_
  intro p e s m args below meth c s₁ X0 hexec hbytes hml hret hlk hnm hown hh0 W hP
  obtain ⟨rfl, hx, hy, s1, hz⟩ := hP
  have c1 : Steps p.tables e below (s₁.setTop (entryFrame m #[.ref x, .ref y] 3)) (s₁.setTop (mkF m 2 #[.val (.ref x), .val (.ref y), .unset] [.ref y, .ref x])) := Steps.trans (entry rfl) (by
    show Steps p.tables e below (s₁.setTop (mkF m 0 #[.val (.ref x), .val (.ref y), .unset] [])) _
    refine XS.aloadN X0.here hexec rfl (hb hbytes d0) rfl rfl ?_
    refine XS.aloadN X0.here hexec rfl (hb hbytes d1) rfl rfl ?_
    exact Steps.refl _)
  by_cases hxy : x = y
  · have c2 : Steps p.tables e below (s₁.setTop (entryFrame m #[.ref x, .ref y] 3)) (s₁.setTop (mkF m 6 #[.val (.ref x), .val (.ref y), .unset] [.int 1])) := c1.trans (by
      refine acmpNo X0.here hexec rfl (hb hbytes d2) rfl rfl rfl (by simp [acmp, hxy]) ?_
      refine iconstV X0.here hexec rfl 1 (hb hbytes d5) (by decide) ?_
      exact Steps.refl _)
    subst hxy
    have ec : cd = cd' := by
      obtain ⟨D, fd, a1, a2, a3⟩ := hx.2.2.1
      obtain ⟨D', fd', b1, b2, b3⟩ := hy.2.2.1
      cases a1.symm.trans b1
      obtain ⟨q1, q2, q3, q4⟩ := a2.1
      obtain ⟨r1, r2, r3, r4⟩ := b2.1
      cases q4.symm.trans r4
      cases a3.symm.trans b3; rfl
    have et : t = t' := by
      obtain ⟨D, fd, a1, a2, a3⟩ := hx.2.1
      obtain ⟨D', fd', b1, b2, b3⟩ := hy.2.1
      cases a1.symm.trans b1
      obtain ⟨q1, q2, q3, q4⟩ := a2.1
      obtain ⟨r1, r2, r3, r4⟩ := b2.1
      cases q4.symm.trans r4
      cases a3.symm.trans b3; rfl
    subst ec et
    have ev : V = V' := by cases hx.2.2.2.1.1.symm.trans hy.2.2.2.1.1; rfl
    subst ev
    have hs : SameT n f k g := (Cod.eqv hx.2.2.2.2.1 hy.2.2.2.2.1 hx.2.2.2.2.2 hy.2.2.2.2.2).mp ⟨rfl, fun _ _ => rfl⟩
    exact ⟨s₁, some (.int 1), _, _, _, X0, rfl, rfl, rfl, (fun h => by cases h), ⟨1, rfl, hh0, Or.inl ⟨rfl, hs⟩⟩, fun fs hl => c2.trans (X0.ireturnOut hexec hret rfl (Or.inr (Or.inl rfl)) (hb hbytes d6) hl)⟩
  · have c2 : Steps p.tables e below (s₁.setTop (entryFrame m #[.ref x, .ref y] 3)) (s₁.setTop (mkF m 8 #[.val (.ref x), .val (.ref y), .unset] [.ref y])) := c1.trans (by
      refine acmpYes X0.here hexec rfl (pc0 := 2) rfl (hb hbytes d2) rfl rfl rfl (by simp [acmp, hxy]) (by decide) rfl ?_
      refine XS.aloadN X0.here hexec rfl (hb hbytes d7) rfl rfl ?_
      exact Steps.refl _)
    obtain ⟨T3, X3, q3, st3⟩ := cinst X0 hexec hown (wk W (.classLink "java/lang/String" 10 "java/lang/String")) (hy.mv X0.warmed.alike hh0).1 (g := (mkF m 8 #[.val (.ref x), .val (.ref y), .unset] [.ref y])) rfl (rest := []) rfl (hb hbytes d8)
    have hh3 := q3.trans hh0
    have c4 : Steps p.tables e below (s₁.setTop (entryFrame m #[.ref x, .ref y] 3)) (T3.setTop (mkF m 15 #[.val (.ref x), .val (.ref y), .unset] [.ref y])) := (c2.trans (st3 _ (Steps.refl _))).trans (by
      refine XS.ifNo X3.here hexec rfl (hb hbytes d11) rfl (i0_eq_f (by decide)) ?_
      refine XS.aloadN X3.here hexec rfl (hb hbytes d14) rfl rfl ?_
      exact Steps.refl _)
    obtain ⟨T5, X5, q5, st5⟩ := cself X3 hexec hown (wk W (.classLink "java/lang/String" 10 "java/lang/String")) (hy.mv X3.warmed.alike hh3).1 (g := (mkF m 15 #[.val (.ref x), .val (.ref y), .unset] [.ref y])) rfl (rest := []) rfl (hb hbytes d15)
    have hh5 := q5.trans hh3
    have c6 : Steps p.tables e below (s₁.setTop (entryFrame m #[.ref x, .ref y] 3)) (T5.setTop (mkF m 19 #[.val (.ref x), .val (.ref y), .val (.ref y)] [])) := (c4.trans (st5 _ (Steps.refl _))).trans (by
      refine XS.astoreN X5.here hexec rfl (hb hbytes d18) rfl rfl rfl ?_
      exact Steps.refl _)
    obtain ⟨T7, X7, q7, st7⟩ := X5.sget hexec hown (wk W (.fieldLink "java/lang/String" 38 "java/lang/String" "COMPACT_STRINGS" "Z")) s1 (fun _ _ h => by rw [hh5]; exact h) (g := (mkF m 19 #[.val (.ref x), .val (.ref y), .val (.ref y)] [])) rfl (hb hbytes d19)
    have hh7 := q7.trans hh5
    have c8 : Steps p.tables e below (s₁.setTop (entryFrame m #[.ref x, .ref y] 3)) (T7.setTop (mkF m 26 #[.val (.ref x), .val (.ref y), .val (.ref y)] [.ref x])) := (c6.trans (st7 _ (Steps.refl _))).trans (by
      refine XS.ifNo X7.here hexec rfl (hb hbytes d22) rfl (i0_eq_f hz) ?_
      refine XS.aloadN X7.here hexec rfl (hb hbytes d25) rfl rfl ?_
      exact Steps.refl _)
    obtain ⟨T9, X9, q9, st9⟩ := X7.hget hexec hown (wk W (.fieldLink "java/lang/String" 15 "java/lang/String" "coder" "B")) (hx.mv X7.warmed.alike hh7).2.2.1 (g := (mkF m 26 #[.val (.ref x), .val (.ref y), .val (.ref y)] [.ref x])) rfl (rest := []) rfl (hb hbytes d26)
    have hh9 := q9.trans hh7
    have c10 : Steps p.tables e below (s₁.setTop (entryFrame m #[.ref x, .ref y] 3)) (T9.setTop (mkF m 30 #[.val (.ref x), .val (.ref y), .val (.ref y)] [.ref y, .int cd])) := (c8.trans (st9 _ (Steps.refl _))).trans (by
      refine XS.aloadN X9.here hexec rfl (hb hbytes d29) rfl rfl ?_
      exact Steps.refl _)
    obtain ⟨T11, X11, q11, st11⟩ := X9.hget hexec hown (wk W (.fieldLink "java/lang/String" 15 "java/lang/String" "coder" "B")) (hy.mv X9.warmed.alike hh9).2.2.1 (g := (mkF m 30 #[.val (.ref x), .val (.ref y), .val (.ref y)] [.ref y, .int cd])) rfl (rest := [.int cd]) rfl (hb hbytes d30)
    have hh11 := q11.trans hh9
    have c12 : Steps p.tables e below (s₁.setTop (entryFrame m #[.ref x, .ref y] 3)) (T11.setTop (mkF m 33 #[.val (.ref x), .val (.ref y), .val (.ref y)] [.int cd', .int cd])) := c10.trans (st11 _ (Steps.refl _))
    by_cases hcd : cd = cd'
    · subst hcd
      have c13 : Steps p.tables e below (s₁.setTop (entryFrame m #[.ref x, .ref y] 3)) (T11.setTop (mkF m 37 #[.val (.ref x), .val (.ref y), .val (.ref y)] [.ref x])) := c12.trans (by
        refine XS.icmpNo X11.here hexec rfl (hb hbytes d33) rfl (ii_ne_f rfl) ?_
        refine XS.aloadN X11.here hexec rfl (hb hbytes d36) rfl rfl ?_
        exact Steps.refl _)
      obtain ⟨T14, X14, q14, st14⟩ := X11.hget hexec hown (wk W (.fieldLink "java/lang/String" 9 "java/lang/String" "value" "[B")) (hx.mv X11.warmed.alike hh11).2.1 (g := (mkF m 37 #[.val (.ref x), .val (.ref y), .val (.ref y)] [.ref x])) rfl (rest := []) rfl (hb hbytes d37)
      have hh14 := q14.trans hh11
      have c15 : Steps p.tables e below (s₁.setTop (entryFrame m #[.ref x, .ref y] 3)) (T14.setTop (mkF m 41 #[.val (.ref x), .val (.ref y), .val (.ref y)] [.ref y, .ref t])) := (c13.trans (st14 _ (Steps.refl _))).trans (by
        refine XS.aloadN X14.here hexec rfl (hb hbytes d40) rfl rfl ?_
        exact Steps.refl _)
      obtain ⟨T16, X16, q16, st16⟩ := X14.hget hexec hown (wk W (.fieldLink "java/lang/String" 9 "java/lang/String" "value" "[B")) (hy.mv X14.warmed.alike hh14).2.1 (g := (mkF m 41 #[.val (.ref x), .val (.ref y), .val (.ref y)] [.ref y, .ref t])) rfl (rest := [.ref t]) rfl (hb hbytes d41)
      have hh16 := q16.trans hh14
      have c17 : Steps p.tables e below (s₁.setTop (entryFrame m #[.ref x, .ref y] 3)) (T16.setTop (mkF m 44 #[.val (.ref x), .val (.ref y), .val (.ref y)] [.ref t', .ref t])) := c15.trans (st16 _ (Steps.refl _))
      obtain ⟨v18, T18, X18, E18, g18⟩ := X16.callS hexec (LEq.law l t V t' V') hown (wks W (staticW "java/lang/String" 541 LEq.yN)) (wk W LEq.tab) (W := 0) (Nat.le_of_ble_eq_true rfl) (Nat.le_of_ble_eq_true rfl) (Nat.le_refl _) (Nat.le_refl _) (g := (mkF m 44 #[.val (.ref x), .val (.ref y), .val (.ref y)] [.ref t', .ref t])) rfl (by rw [hml]; rfl) c17 (argsL := [.ref t, .ref t']) (rest := []) rfl rfl (by show 2 * 0 + 0 ≤ _; decide) (hb hbytes d44) (⟨rfl, hx.2.2.2.1.mv X16.warmed.alike hh16, hx.2.2.2.2.1.ty, hy.2.2.2.1.mv X16.warmed.alike hh16, hy.2.2.2.2.1.ty⟩)
      obtain ⟨v, rfl, q18, hv⟩ := E18
      have iff := Cod.eqv hx.2.2.2.2.1 hy.2.2.2.2.1 hx.2.2.2.2.2 hy.2.2.2.2.2
      rcases hv with ⟨rfl, he⟩ | ⟨rfl, he⟩
      · have c19 : Steps p.tables e below (s₁.setTop (entryFrame m #[.ref x, .ref y] 3)) (T18.setTop (mkF m 55 #[.val (.ref x), .val (.ref y), .val (.ref y)] [.int 1])) := Steps.trans g18 (by
          refine XS.ifNo X18.here hexec rfl (hb hbytes d47) rfl (i0_eq_f (by decide)) ?_
          refine iconstV X18.here hexec rfl 1 (hb hbytes d50) (by decide) ?_
          refine XS.goto X18.here hexec rfl (pc0 := 51) rfl (hb hbytes d51) (by decide) rfl ?_
          exact Steps.refl _)
        exact ⟨T18, some (.int 1), _, _, _, X18, rfl, rfl, rfl, (fun h => by cases h), ⟨1, rfl, q18.trans hh16, Or.inl ⟨rfl, iff.mp he⟩⟩, fun fs hl => c19.trans (X18.ireturnOut hexec hret rfl (Or.inr (Or.inl rfl)) (hb hbytes d55) hl)⟩
      · have c19 : Steps p.tables e below (s₁.setTop (entryFrame m #[.ref x, .ref y] 3)) (T18.setTop (mkF m 55 #[.val (.ref x), .val (.ref y), .val (.ref y)] [.int 0])) := Steps.trans g18 (by
          refine XS.ifYes X18.here hexec rfl (pc0 := 47) rfl (hb hbytes d47) rfl (i0_eq_t rfl) (by decide) rfl ?_
          refine iconstV X18.here hexec rfl 0 (hb hbytes d54) (by decide) ?_
          exact Steps.refl _)
        exact ⟨T18, some (.int 0), _, _, _, X18, rfl, rfl, rfl, (fun h => by cases h), ⟨0, rfl, q18.trans hh16, Or.inr ⟨rfl, fun q => he (iff.mpr q)⟩⟩, fun fs hl => c19.trans (X18.ireturnOut hexec hret rfl (Or.inr (Or.inl rfl)) (hb hbytes d55) hl)⟩
    · have c13 : Steps p.tables e below (s₁.setTop (entryFrame m #[.ref x, .ref y] 3)) (T11.setTop (mkF m 55 #[.val (.ref x), .val (.ref y), .val (.ref y)] [.int 0])) := c12.trans (by
        refine XS.icmpYes X11.here hexec rfl (pc0 := 33) rfl (hb hbytes d33) rfl (ii_ne_t hcd) (by decide) rfl ?_
        refine iconstV X11.here hexec rfl 0 (hb hbytes d54) (by decide) ?_
        exact Steps.refl _)
      exact ⟨T11, some (.int 0), _, _, _, X11, rfl, rfl, rfl, (fun h => by cases h), ⟨0, rfl, hh11, Or.inr ⟨rfl, Cod.dif hx.2.2.2.2.1 hy.2.2.2.2.1 hcd⟩⟩, fun fs hl => c13.trans (X11.ireturnOut hexec hret rfl (Or.inr (Or.inl rfl)) (hb hbytes d55) hl)⟩
theorem pays {l : Launch} {R : Room} {p : Program} {e : Env} {below : List Frame} {s : State} {sargs : Array Value} {len W : Nat} (x t : Addr) (V : Cell) (cd : Int32) (n : Nat) (f : Nat → Int32) (y t' : Addr) (V' : Cell) (cd' : Int32) (k : Nat) (g : Nat → Int32) (z : Int32) (htab : tab.before sargs s = true) (hfr : 2 ≤ R.frames) (hlo : W + 28 ≤ R.locals) :
    Back l R p e below s sargs yN len W (fun A₁ a₁ => A₁.cells + 0 ≤ R.cells ∧ A₁.slots + 0 ≤ R.slots ∧ P x t V cd n f y t' V' cd' k g z a₁ A₁.U) (fun A₁ _ v₁ B₁ => Says01 (SameT n f k g) v₁ A₁.U B₁.U ∧ B₁.locs = A₁.locs ++ [] ∧ B₁.cells = A₁.cells + 0 ∧ B₁.slots = A₁.slots + 0) :=
  (law l x t V cd n f y t' V' cd' k g z).pays htab hfr (by omega)
end SEq
end StrChars
namespace StrChars.Road
open Jvm Sem ClassFile Op Lib Jvm.Stand Jvm.Free Jvm.Free.XT
open Jvm.Lib.Cold (StaticIs)
/-- the words of String.equals(Object) -/
abbrev wordsEq : List Jvm.Cond := [.code SEq.yN SEq.yB 3 (some .boolean), .initialized ST, .classLink ST 10 ST, .fieldLink ST 38 ST "COMPACT_STRINGS" "Z", .fieldLink ST 15 ST "coder" "B", .fieldLink ST 9 ST "value" "[B", .methodLink ST 541 LEq.yN, .static LEq.yN, .code LEq.yN LEq.yB 3 (some .boolean), .initialized "java/lang/StringLatin1"]
theorem tabEq_of {a : Array Value} {s : State} (h : ∀ w ∈ wordsEq, w.before a s = true) : SEq.tab.before a s = true := by
  have hl : LEq.tab.before a s = true := unparts (wk h (.code LEq.yN LEq.yB 3 (some .boolean))) (wks h (.initialized LEq.yN.cls :: LEq.site))
  have q := consq hl h
  exact unparts (wk q (.code SEq.yN SEq.yB 3 (some .boolean))) (wks q (.initialized SEq.yN.cls :: SEq.site))
theorem movedEq {Z s : State} {a0 args : Array Value} (hZ : Z.Warmed39 s.vm) (hw : ∀ d ∈ wordsEq, d.before a0 Z = true) : ∀ d ∈ wordsEq, d.before args s = true := fun d hd => by
  have t : ∀ d ∈ wordsEq, (d.onTables && d.keepsFace) = true := by decide +kernel
  exact RoadKit.mv hZ (hw d hd) (t d hd)
/-- the road's facts of a String, as the laws ask it -/
theorem txt_of {Z U : State} {a0 : Array Value} {kI : Nat} (wi : (Jvm.Cond.instantiable ST kI).before a0 Z = true) (al : Z.vm.Alike U.vm) {x t : Addr} {kb : ClassId} {cs : List Int32} {cd N2 : Int32} {vs : List Value} (E : RoadKit.Exa Z U.heap x ST) (V : RoadKit.Fld Z U.heap x ST "value" "[B" (.ref t)) (C : RoadKit.Fld Z U.heap x ST "coder" "B" (.int cd)) (K : RoadKit.Arv Z U.heap t kb .byte N2 vs (.int 0)) (hc : CodA cs cd N2 vs) (hb : ∀ c ∈ cs, ¬ c < 0 ∧ ¬ (65535 : Int32) < c) (l2 : cs.length ≤ 4000) :
    ∃ A, Txt x t A cd cs.length (fun j => cs.getD j 0) U := by
  obtain ⟨A, K1, K2, K3, K4, K5, K6⟩ := K
  have hcod := hc.cod (by omega) K3 K5
  obtain ⟨D, fV, fC, hB, F1, F2, g1, g2, -, -⟩ := strObj wi al E V C
  exact ⟨A, ⟨_, hB.2.2.1, D, hB.1, rfl, by cases q : D.vm <;> first | rfl | exact absurd q (hB.2.1.2 _)⟩, Has.of hB F1 g1, Has.of hB F2 g2, ⟨K1.1, State.isArrayOf_alike al K1.2.1, K1.2.2, by rcases hcod with ⟨-, q, -⟩ | ⟨-, q, -⟩ <;> omega⟩, hcod, fun j hj => by
    have e : cs.getD j 0 = cs[j] := by simp [List.getD_eq_getElem?_getD, hj]
    show ¬ cs.getD j 0 < 0 ∧ ¬ 65535 < cs.getD j 0
    rw [e]; exact hb _ (List.getElem_mem _)⟩
theorem same_list (cs ds : List Int32) : SameT cs.length (fun j => cs.getD j 0) ds.length (fun j => ds.getD j 0) ↔ cs = ds := by
  constructor
  · rintro ⟨e, q⟩
    refine List.ext_getElem e fun j h1 h2 => ?_
    have := q j h1
    simpa [List.getD_eq_getElem?_getD, h1, h2] using this
  · rintro rfl
    exact ⟨rfl, fun _ _ => rfl⟩
/-- **equals(Object) OF TWO SUCH STRINGS**: 1 just where the chars are the same -/
theorem eqW {p : Program} {l : Launch} {e : Env} {R : Room} {s : State} {args : Array Value} {below : List Frame} {len W : Nat} {Z : State} {a0 : Array Value} {h : Heap} (hZ : Z.Warmed39 s.vm) (hw : ∀ d ∈ wordsEq, d.before a0 Z = true) {kI : Nat} (wi : (Jvm.Cond.instantiable ST kI).before a0 Z = true)
    {x t : Addr} {kb : ClassId} {cs : List Int32} {cd N2 : Int32} {vs : List Value} (E : RoadKit.Exa Z h x ST) (V : RoadKit.Fld Z h x ST "value" "[B" (.ref t)) (C : RoadKit.Fld Z h x ST "coder" "B" (.int cd)) (K : RoadKit.Arv Z h t kb .byte N2 vs (.int 0)) (hc : CodA cs cd N2 vs) (hb : ∀ c ∈ cs, ¬ c < 0 ∧ ¬ (65535 : Int32) < c) (l2 : cs.length ≤ 4000)
    {y t' : Addr} {kb' : ClassId} {ds : List Int32} {cd' N2' : Int32} {vs' : List Value} (E' : RoadKit.Exa Z h y ST) (V' : RoadKit.Fld Z h y ST "value" "[B" (.ref t')) (C' : RoadKit.Fld Z h y ST "coder" "B" (.int cd')) (K' : RoadKit.Arv Z h t' kb' .byte N2' vs' (.int 0)) (hc' : CodA ds cd' N2' vs') (hb' : ∀ c ∈ ds, ¬ c < 0 ∧ ¬ (65535 : Int32) < c) (l2' : ds.length ≤ 4000)
    {z : Int32} (S : RoadKit.Sta Z h ST "COMPACT_STRINGS" "Z" (.int z)) (hz : ¬ z = 0) (hfr : 2 ≤ R.frames) (hlo : W + 28 ≤ R.locals) :
    Back l R p e below s args (⟨"java/lang/String", "equals", "(Ljava/lang/Object;)Z"⟩ : MethodName) len W (fun P a => a = #[.ref x, .ref y] ∧ P.U.heap = h ∧ P.cells + 0 ≤ R.cells ∧ P.slots + 0 ≤ R.slots)
      (fun P _ v B => ∃ L, (((v = some (.int 1) ∧ cs = ds) ∨ (v = some (.int 0) ∧ ¬ cs = ds)) ∧ L = [] ∧ B.U.heap = h) ∧ B.locs = P.locs ++ L ∧ B.cells = P.cells + 0 ∧ B.slots = P.slots + 0) := by
  intro m meth c P g ig mk a X hg hsize hdg hW hn hp'
  obtain ⟨rfl, rfl, r1, r2⟩ := hp'
  have al : Z.vm.Alike P.U.vm := hZ.alike.trans X.warmed.alike
  obtain ⟨A, hx⟩ := txt_of wi al E V C K hc hb l2
  obtain ⟨A', hy⟩ := txt_of wi al E' V' C' K' hc' hb' l2'
  obtain ⟨v, B, X', ⟨⟨w, hv, hh, hq⟩, hl, hk, hs⟩, st⟩ := SEq.pays x t A cd cs.length (fun j => cs.getD j 0) y t' A' cd' ds.length (fun j => ds.getD j 0) z (tabEq_of (movedEq hZ hw)) hfr hlo m meth c P g ig mk _ X hg hsize hdg hW hn ⟨r1, r2, rfl, hx, hy, sta_is al S, hz⟩
  refine ⟨v, B, X', ⟨[], ⟨?_, rfl, hh⟩, hl, hk, hs⟩, st⟩
  rcases hq with ⟨rfl, q⟩ | ⟨rfl, q⟩
  · exact Or.inl ⟨hv, (same_list cs ds).mp q⟩
  · exact Or.inr ⟨hv, fun e => q ((same_list cs ds).mpr e)⟩
end StrChars.Road
namespace StrChars.Road
open Jvm Sem ClassFile Op Lib Jvm.Stand Jvm.Free Jvm.Free.XT
open Jvm.Lib.Cold (StaticIs)
/-- what backV says of its String, as the contracts of this text ask it: cs's low bytes, coder 0 -/
theorem codOf {cs : List Int32} {n : Nat} (hn : cs.length = n) (hb : ∀ c ∈ cs, ¬ 255 < c) : CodA cs 0 (Int32.ofNat n) ((cs.map lo8).map Value.int) := Or.inl ⟨rfl, by rw [hn], by simp [List.map_map, Function.comp_def], hb⟩
end StrChars.Road
end Jvm.Pilot.@@N@@
namespace Jvm.Pilot.@@N@@
open Jvm Jvm.ClassFile Sem Op Lib Jvm.Free Jvm.Stand Jvm.LawKit Jvm.RoadKit Bundle Jvm.Pilot.@@N@@.Jvm.D
section OwnKit
variable {Z : State} {EL : List (String × Nat)} {a0 : Array Value} {n0 : Nat} {h0 : Heap} {ws : List Addr} {own : String} {bytes : ByteArray} {mx : Nat} {p : Program} {l : Launch} {e : Env} {R : Room} {s : State} {m : MethodId} {args : Array Value} {below : List Frame} {meth : Method} {c : Code} {sv : List Addr} {T : State} {h : Heap} {k n : Nat} {P : Outcome → State → Prop} {pc : Nat} {Ls : Array Slot} {st : List Value}
def OGo (tb : Tables) (e : Env) (below : List Frame) (P : Outcome → State → Prop) (T : State) (g : JFrame) : Prop := ∃ (t : State) (o : Outcome), Steps tb e below (T.setTop g) t ∧ t.status = .running ∧ Ended t below o ∧ P o t
theorem og {tb : Tables} {T' : State} {g g' : JFrame} (st : ∀ t, Steps tb e below (T'.setTop g') t → Steps tb e below (T.setTop g) t) (K : OGo tb e below P T' g') : OGo tb e below P T g := by
  obtain ⟨t, o, h1, h2⟩ := K
  exact ⟨t, o, st t h1, h2⟩
def OEnd (Z : State) (EL : List (String × Nat)) (n0 : Nat) (h0 : Heap) (ws : List Addr) (s : State) (Q : Option Value → Heap → Prop) (k n : Nat) (o : Outcome) (t : State) : Prop :=
  ∃ v L, o = .returned v ∧ (Fr n0 L ∧ Keep h0 t.heap ws ∧ Q v t.heap) ∧ CHr Z EL s.vm s.heap t.vm t.heap ∧ ReturnedEndW s o t L k n ∧ (EL = [] → FrameEnd s o t L k n)
def OIn (Z : State) (EL : List (String × Nat)) (a0 : Array Value) (n0 : Nat) (h0 : Heap) (ws : List Addr) (own : String) (s : State) (m : MethodId) (sv : List Addr) (vm0 : Vm) (locs : List Loc) (h : Heap) : Prop :=
  s.heap = h0 ∧ Old Z n0 h ∧ Keep h0 h ws ∧ (∃ k0, s.Since vm0 k0 ∧ k0 ≤ h.size) ∧ Z.Warmed39 vm0 ∧ vm0.findClass own = some m.cls ∧ EW Z a0 EL ∧ CHr Z EL s.vm s.heap vm0 h ∧ (EL = [] → vm0 = s.vm) ∧ Fr n0 locs ∧ ∀ x ∈ sv, n0 ≤ x ∧ x < h.size ∧ (x ∈ ws ∨ h0.size ≤ x) ∧ Safe Z EL vm0 h x
def OSt (Z : State) (EL : List (String × Nat)) (a0 : Array Value) (n0 : Nat) (h0 : Heap) (ws : List Addr) (own : String) (bytes : ByteArray) (mx : Nat) (p : Program) (l : Launch) (e : Env) (R : Room) (s : State) (m : MethodId) (args : Array Value) (below : List Frame) (meth : Method) (c : Code) (sv : List Addr) (T : State) (h : Heap) (k n : Nat) : Prop :=
  p.tables.exec = Jvm.exec ∧ c.code = bytes ∧ c.maxLocals = mx ∧ T.heap = h ∧ meth.locks = false ∧ ∃ (vm0 : Vm) (locs : List Loc), Stand p l e R (s.setVm vm0) m args below meth c T locs k n ∧ OIn Z EL a0 n0 h0 ws own s m sv vm0 locs h
theorem OSt.here (X : OSt Z EL a0 n0 h0 ws own bytes mx p l e R s m args below meth c sv T h k n) : At T m c below := by obtain ⟨-, -, -, -, -, _, _, Y, -⟩ := X; exact Y.here
theorem OSt.hx (X : OSt Z EL a0 n0 h0 ws own bytes mx p l e R s m args below meth c sv T h k n) : p.tables.exec = Jvm.exec := X.1
theorem OSt.hd (X : OSt Z EL a0 n0 h0 ws own bytes mx p l e R s m args below meth c sv T h k n) {r : Except ClassFile.DecodeError (ClassFile.Instr × Nat)} (hd : decode bytes pc = r) : decode c.code pc = r := hb X.2.1 hd
theorem OSt.old (X : OSt Z EL a0 n0 h0 ws own bytes mx p l e R s m args below meth c sv T h k n) : Old Z n0 h := by obtain ⟨-, -, -, -, -, _, _, -, -, I, -⟩ := X; exact I
theorem OSt.more (X : OSt Z EL a0 n0 h0 ws own bytes mx p l e R s m args below meth c sv T h k n) {k' n' : Nat} (hk : k ≤ k') (hn : n ≤ n') : OSt Z EL a0 n0 h0 ws own bytes mx p l e R s m args below meth c sv T h k' n' := by
  obtain ⟨a1, a2, a3, a4, a5, vm0, locs, Y, I⟩ := X
  exact ⟨a1, a2, a3, a4, a5, vm0, locs, Y.more hk hn, I⟩
theorem OIn.ext {vm0 : Vm} {locs : List Loc} {h' : Heap} (I : OIn Z EL a0 n0 h0 ws own s m sv vm0 locs h) (E : Ext h h') : OIn Z EL a0 n0 h0 ws own s m sv vm0 locs h' := by
  obtain ⟨b1, b2, b3, ⟨k0, b4, b4'⟩, b5, b6, b7, b8, b9, b10, b11⟩ := I
  exact ⟨b1, b2.ext E, b3.ext E, ⟨k0, b4, Nat.le_trans b4' E.1⟩, b5, b6, b7, b8.trans (CHr.ext E b8.1), b9, b10, fun x hx => let q := b11 x hx; ⟨q.1, Nat.lt_of_lt_of_le q.2.1 E.1, q.2.2.1, Safe.ext E b8.1 q.2.2.2⟩⟩
theorem OIn.new {vm0 : Vm} {locs : List Loc} {h' : Heap} (I : OIn Z EL a0 n0 h0 ws own s m sv vm0 locs h) (E : Ext h h') {b : Addr} (h1 : h.size ≤ b) (h2 : b < h'.size) : OIn Z EL a0 n0 h0 ws own s m (b :: sv) vm0 locs h' := by
  have I' := I.ext E
  obtain ⟨b1, b2, b3, -, -, -, -, b8, -⟩ := I
  obtain ⟨c1, c2, c3, c4, c5, c6, c7, c8, c9, c10, c11⟩ := I'
  refine ⟨c1, c2, c3, c4, c5, c6, c7, c8, c9, c10, fun x hx => ?_⟩
  rcases List.mem_cons.mp hx with rfl | hx
  · exact ⟨Nat.le_trans (Nat.le_of_eq b2.1.symm) (Nat.le_trans b2.2.1 h1), h2, Or.inr (Nat.le_trans b3.1 h1), Safe.ext E b8.1 (Safe.new h1)⟩
  · exact c11 x hx
theorem OIn.wr {vm0 : Vm} {locs : List Loc} {h' : Heap} (I : OIn Z EL a0 n0 h0 ws own s m sv vm0 locs h) {a : Addr} {sl : Nat} {v : Value} (ha : a ∈ sv) (W : Wr h h' a sl v) : OIn Z EL a0 n0 h0 ws own s m sv vm0 (locs ++ [⟨a, sl⟩]) h' := by
  obtain ⟨b1, b2, b3, ⟨k0, b4, b4'⟩, b5, b6, b7, b8, b9, b10, b11⟩ := I
  obtain ⟨q1, q2, q3, q4⟩ := b11 a ha
  refine ⟨b1, b2.wr W q1, b3.wr W q3, ⟨k0, b4, by rw [W.size]; exact b4'⟩, b5, b6, b7, b8.trans (CHr.wr W q4 b8.1), b9, b10.app fun y hy => ?_, fun x hx => let r := b11 x hx; ⟨r.1, by rw [W.size]; exact r.2.1, r.2.2.1, Safe.wr W q4 b8.1 r.2.2.2⟩⟩
  cases List.mem_singleton.mp hy; exact q1
theorem OIn.keep {vm0 : Vm} {locs : List Loc} {h' : Heap} (I : OIn Z EL a0 n0 h0 ws own s m sv vm0 locs h) {ws' : List Addr} {L : List Loc} (K : Keep h h' ws') (hs : ∀ x ∈ ws', x ∈ sv) (N : Fr n0 L) : OIn Z EL a0 n0 h0 ws own s m sv vm0 (locs ++ L) h' := by
  obtain ⟨b1, b2, b3, ⟨k0, b4, b4'⟩, b5, b6, b7, b8, b9, b10, b11⟩ := I
  have sf : ∀ x ∈ ws', Safe Z EL vm0 h x := fun x hx => (b11 x (hs x hx)).2.2.2
  exact ⟨b1, b2.keep K fun x hx => (b11 x (hs x hx)).1, b3.trans K fun x hx => (b11 x (hs x hx)).2.2.1, ⟨k0, b4, Nat.le_trans b4' K.1⟩, b5, b6, b7, b8.trans (CHr.keep K sf b8.1), b9, b10.app N, fun x hx => let r := b11 x hx; ⟨r.1, Nat.lt_of_lt_of_le r.2.1 K.1, r.2.2.1, Safe.keep K sf b8.1 r.2.2.2⟩⟩
theorem OIn.call {vm0 : Vm} {locs : List Loc} {h' : Heap} {vm1 : Vm} (I : OIn Z EL a0 n0 h0 ws own s m sv vm0 locs h) {ws' : List Addr} {L : List Loc} (K : Keep h h' ws') (hs : ∀ x ∈ ws', x ∈ sv) (N : Fr n0 L) (C : CHr Z EL vm0 h vm1 h') (S : (s.setVm vm0).Since vm1 h'.size) (hne : EL = [] → vm1 = vm0) : OIn Z EL a0 n0 h0 ws own s m sv vm1 (locs ++ L) h' := by
  obtain ⟨b1, b2, b3, ⟨k0, b4, b4'⟩, b5, b6, b7, b8, b9, b10, b11⟩ := I
  exact ⟨b1, b2.keep K fun x hx => (b11 x (hs x hx)).1, b3.trans K fun x hx => (b11 x (hs x hx)).2.2.1, ⟨_, b4.trans S (Nat.le_trans b4' K.1), Nat.le_refl _⟩, State.Warmed39.trans (t := s.setVm vm0) b5 S.1, by rw [S.1.alike.findClass]; exact b6, b7, b8.trans C, fun q => (hne q).trans (b9 q), b10.app N, fun x hx => let r := b11 x hx; ⟨r.1, Nat.lt_of_lt_of_le r.2.1 K.1, r.2.2.1, C.safe r.2.1 r.2.2.2⟩⟩
theorem og_aload (X : OSt Z EL a0 n0 h0 ws own bytes mx p l e R s m args below meth c sv T h k n) (pc' : Nat) {j : Nat} {v : Value} (hd : decode bytes pc = .ok (.aload j, 2)) (hl : Ls[j]? = some (.val (v))) (hv : v.isRef = true) (hq : pc' = pc + 2) (K : OGo p.tables e below P T (mkF m pc' Ls (v :: st))) : OGo p.tables e below P T (mkF m pc Ls st) := by
  subst hq
  exact og (fun _ q => XS.aload X.here X.hx rfl (X.hd hd) hl hv q) K
theorem og_aloadN (X : OSt Z EL a0 n0 h0 ws own bytes mx p l e R s m args below meth c sv T h k n) (pc' : Nat) {j : Fin 4} {v : Value} (hd : decode bytes pc = .ok (.aload_n j, 1)) (hl : Ls[j.val]? = some (.val (v))) (hv : v.isRef = true) (hq : pc' = pc + 1) (K : OGo p.tables e below P T (mkF m pc' Ls (v :: st))) : OGo p.tables e below P T (mkF m pc Ls st) := by
  subst hq
  exact og (fun _ q => XS.aloadN X.here X.hx rfl (X.hd hd) hl hv q) K
theorem og_iload (X : OSt Z EL a0 n0 h0 ws own bytes mx p l e R s m args below meth c sv T h k n) (pc' : Nat) {j : Nat} {v : Int32} (hd : decode bytes pc = .ok (.iload j, 2)) (hl : Ls[j]? = some (.val (.int v))) (hq : pc' = pc + 2) (K : OGo p.tables e below P T (mkF m pc' Ls (.int v :: st))) : OGo p.tables e below P T (mkF m pc Ls st) := by
  subst hq
  exact og (fun _ q => XS.iload X.here X.hx rfl (X.hd hd) hl q) K
theorem og_iloadN (X : OSt Z EL a0 n0 h0 ws own bytes mx p l e R s m args below meth c sv T h k n) (pc' : Nat) {j : Fin 4} {v : Int32} (hd : decode bytes pc = .ok (.iload_n j, 1)) (hl : Ls[j.val]? = some (.val (.int v))) (hq : pc' = pc + 1) (K : OGo p.tables e below P T (mkF m pc' Ls (.int v :: st))) : OGo p.tables e below P T (mkF m pc Ls st) := by
  subst hq
  exact og (fun _ q => XS.iloadN X.here X.hx rfl (X.hd hd) hl q) K
theorem og_iconst (X : OSt Z EL a0 n0 h0 ws own bytes mx p l e R s m args below meth c sv T h k n) (pc' : Nat) (v : Int32) {i : Int} (hd : decode bytes pc = .ok (.iconst i, 1)) (hv : Int32.ofInt i = v) (hq : pc' = pc + 1) (K : OGo p.tables e below P T (mkF m pc' Ls (.int v :: st))) : OGo p.tables e below P T (mkF m pc Ls st) := by
  subst hq hv
  exact og (fun _ q => XS.iconst X.here X.hx rfl (X.hd hd) q) K
theorem og_bipush (X : OSt Z EL a0 n0 h0 ws own bytes mx p l e R s m args below meth c sv T h k n) (pc' : Nat) (v : Int32) {i : Int} (hd : decode bytes pc = .ok (.bipush i, 2)) (hv : (Int8.ofInt i).toInt32 = v) (hq : pc' = pc + 2) (K : OGo p.tables e below P T (mkF m pc' Ls (.int v :: st))) : OGo p.tables e below P T (mkF m pc Ls st) := by
  subst hq hv
  exact og (fun _ q => XS.bipush X.here X.hx rfl (X.hd hd) q) K
theorem og_sipush (X : OSt Z EL a0 n0 h0 ws own bytes mx p l e R s m args below meth c sv T h k n) (pc' : Nat) (v : Int32) {i : Int} (hd : decode bytes pc = .ok (.sipush i, 3)) (hv : (Int16.ofInt i).toInt32 = v) (hq : pc' = pc + 3) (K : OGo p.tables e below P T (mkF m pc' Ls (.int v :: st))) : OGo p.tables e below P T (mkF m pc Ls st) := by
  subst hq hv
  exact og (fun _ q => XS.sipush X.here X.hx rfl (X.hd hd) q) K
theorem og_aconstNull (X : OSt Z EL a0 n0 h0 ws own bytes mx p l e R s m args below meth c sv T h k n) (pc' : Nat)  (hd : decode bytes pc = .ok (.aconst_null, 1))  (hq : pc' = pc + 1) (K : OGo p.tables e below P T (mkF m pc' Ls (.null :: st))) : OGo p.tables e below P T (mkF m pc Ls st) := by
  subst hq
  exact og (fun _ q => XS.aconstNull X.here X.hx rfl (X.hd hd) q) K
theorem og_iadd (X : OSt Z EL a0 n0 h0 ws own bytes mx p l e R s m args below meth c sv T h k n) (pc' : Nat) {x y : Int32} (hd : decode bytes pc = .ok (.iadd, 1))  (hq : pc' = pc + 1) (K : OGo p.tables e below P T (mkF m pc' Ls (.int (x + y) :: st))) : OGo p.tables e below P T (mkF m pc Ls (.int y :: .int x :: st)) := by
  subst hq
  exact og (fun _ q => XS.iadd X.here X.hx rfl (X.hd hd) rfl q) K
theorem og_isub (X : OSt Z EL a0 n0 h0 ws own bytes mx p l e R s m args below meth c sv T h k n) (pc' : Nat) {x y : Int32} (hd : decode bytes pc = .ok (.isub, 1))  (hq : pc' = pc + 1) (K : OGo p.tables e below P T (mkF m pc' Ls (.int (x - y) :: st))) : OGo p.tables e below P T (mkF m pc Ls (.int y :: .int x :: st)) := by
  subst hq
  exact og (fun _ q => XS.isub X.here X.hx rfl (X.hd hd) rfl q) K
theorem og_iand (X : OSt Z EL a0 n0 h0 ws own bytes mx p l e R s m args below meth c sv T h k n) (pc' : Nat) {x y : Int32} (hd : decode bytes pc = .ok (.iand, 1))  (hq : pc' = pc + 1) (K : OGo p.tables e below P T (mkF m pc' Ls (.int (x &&& y) :: st))) : OGo p.tables e below P T (mkF m pc Ls (.int y :: .int x :: st)) := by
  subst hq
  exact og (fun _ q => XS.iand X.here X.hx rfl (X.hd hd) rfl q) K
theorem og_imul (X : OSt Z EL a0 n0 h0 ws own bytes mx p l e R s m args below meth c sv T h k n) (pc' : Nat) {x y : Int32} (hd : decode bytes pc = .ok (.imul, 1))  (hq : pc' = pc + 1) (K : OGo p.tables e below P T (mkF m pc' Ls (.int (x * y) :: st))) : OGo p.tables e below P T (mkF m pc Ls (.int y :: .int x :: st)) := by
  subst hq
  exact og (fun _ q => XS.imul X.here X.hx rfl (X.hd hd) rfl q) K
theorem og_ixor (X : OSt Z EL a0 n0 h0 ws own bytes mx p l e R s m args below meth c sv T h k n) (pc' : Nat) {x y : Int32} (hd : decode bytes pc = .ok (.ixor, 1))  (hq : pc' = pc + 1) (K : OGo p.tables e below P T (mkF m pc' Ls (.int (x ^^^ y) :: st))) : OGo p.tables e below P T (mkF m pc Ls (.int y :: .int x :: st)) := by
  subst hq
  exact og (fun _ q => XT.ixor X.here X.hx rfl (X.hd hd) rfl q) K
theorem og_iushr (X : OSt Z EL a0 n0 h0 ws own bytes mx p l e R s m args below meth c sv T h k n) (pc' : Nat) {x y : Int32} (hd : decode bytes pc = .ok (.iushr, 1))  (hq : pc' = pc + 1) (K : OGo p.tables e below P T (mkF m pc' Ls (.int (Jvm.Free.XT.ushr x y) :: st))) : OGo p.tables e below P T (mkF m pc Ls (.int y :: .int x :: st)) := by
  subst hq
  exact og (fun _ q => XT.iushr X.here X.hx rfl (X.hd hd) rfl q) K
theorem og_idiv (X : OSt Z EL a0 n0 h0 ws own bytes mx p l e R s m args below meth c sv T h k n) (pc' : Nat) {x y : Int32} (hd : decode bytes pc = .ok (.idiv, 1)) (hy : y ≠ 0) (hq : pc' = pc + 1) (K : OGo p.tables e below P T (mkF m pc' Ls (.int (x / y) :: st))) : OGo p.tables e below P T (mkF m pc Ls (.int y :: .int x :: st)) := by
  subst hq
  exact og (fun _ q => XS.idiv X.here X.hx rfl (X.hd hd) rfl hy q) K
theorem og_i2b (X : OSt Z EL a0 n0 h0 ws own bytes mx p l e R s m args below meth c sv T h k n) (pc' : Nat) {x : Int32} (hd : decode bytes pc = .ok (.i2b, 1))  (hq : pc' = pc + 1) (K : OGo p.tables e below P T (mkF m pc' Ls (.int x.toInt8.toInt32 :: st))) : OGo p.tables e below P T (mkF m pc Ls (.int x :: st)) := by
  subst hq
  exact og (fun _ q => XT.i2b X.here X.hx rfl (X.hd hd) rfl q) K
theorem og_i2c8 (X : OSt Z EL a0 n0 h0 ws own bytes mx p l e R s m args below meth c sv T h k n) (pc' : Nat) {x : Int32} (hd : decode bytes pc = .ok (.i2c, 1)) (hq : pc' = pc + 1) (K : OGo p.tables e below P T (mkF m pc' Ls (.int (x &&& 255) :: st))) : OGo p.tables e below P T (mkF m pc Ls (.int (x &&& 255) :: st)) := by
  subst hq
  exact og (fun _ q => XT.i2c X.here X.hx rfl (X.hd hd) rfl (by rw [i2c_mask]; exact q)) K
theorem og_dup (X : OSt Z EL a0 n0 h0 ws own bytes mx p l e R s m args below meth c sv T h k n) (pc' : Nat) {x : Value} (hd : decode bytes pc = .ok (.dup, 1)) (hc : x.category = 1) (hq : pc' = pc + 1) (K : OGo p.tables e below P T (mkF m pc' Ls (x :: x :: st))) : OGo p.tables e below P T (mkF m pc Ls (x :: st)) := by
  subst hq
  exact og (fun _ q => XS.dup X.here X.hx rfl (X.hd hd) rfl hc q) K
theorem og_pop (X : OSt Z EL a0 n0 h0 ws own bytes mx p l e R s m args below meth c sv T h k n) (pc' : Nat) {x : Value} (hd : decode bytes pc = .ok (.pop, 1)) (hc : x.category = 1) (hq : pc' = pc + 1) (K : OGo p.tables e below P T (mkF m pc' Ls st)) : OGo p.tables e below P T (mkF m pc Ls (x :: st)) := by
  subst hq
  exact og (fun _ q => XT.pop X.here X.hx rfl (X.hd hd) rfl hc q) K
theorem og_dupX1 (X : OSt Z EL a0 n0 h0 ws own bytes mx p l e R s m args below meth c sv T h k n) (pc' : Nat) {x y : Value} (hd : decode bytes pc = .ok (.dup_x1, 1)) (hc : x.category = 1) (hc' : y.category = 1) (hq : pc' = pc + 1) (K : OGo p.tables e below P T (mkF m pc' Ls (x :: y :: x :: st))) : OGo p.tables e below P T (mkF m pc Ls (x :: y :: st)) := by
  subst hq
  exact og (fun _ q => XT.dupX1 X.here X.hx rfl (X.hd hd) rfl hc hc' q) K
theorem og_istore (X : OSt Z EL a0 n0 h0 ws own bytes mx p l e R s m args below meth c sv T h k n) (pc' : Nat) (l' : Array Slot) {j : Nat} {x : Int32} (hd : decode bytes pc = .ok (.istore j, 2)) (hl : storeLocals Ls j (.int x) = some l') (hq : pc' = pc + 2) (K : OGo p.tables e below P T (mkF m pc' l' st)) : OGo p.tables e below P T (mkF m pc Ls (.int x :: st)) := by
  subst hq
  exact og (fun _ q => XS.istore X.here X.hx rfl (X.hd hd) rfl hl q) K
theorem og_istoreN (X : OSt Z EL a0 n0 h0 ws own bytes mx p l e R s m args below meth c sv T h k n) (pc' : Nat) (l' : Array Slot) {j : Fin 4} {x : Int32} (hd : decode bytes pc = .ok (.istore_n j, 1)) (hl : storeLocals Ls j.val (.int x) = some l') (hq : pc' = pc + 1) (K : OGo p.tables e below P T (mkF m pc' l' st)) : OGo p.tables e below P T (mkF m pc Ls (.int x :: st)) := by
  subst hq
  exact og (fun _ q => XS.istoreN X.here X.hx rfl (X.hd hd) rfl hl q) K
theorem og_astore (X : OSt Z EL a0 n0 h0 ws own bytes mx p l e R s m args below meth c sv T h k n) (pc' : Nat) (l' : Array Slot) {j : Nat} {x : Value} (hd : decode bytes pc = .ok (.astore j, 2)) (hv : x.isRef = true) (hl : storeLocals Ls j x = some l') (hq : pc' = pc + 2) (K : OGo p.tables e below P T (mkF m pc' l' st)) : OGo p.tables e below P T (mkF m pc Ls (x :: st)) := by
  subst hq
  exact og (fun _ q => XS.astore X.here X.hx rfl (X.hd hd) rfl hv hl q) K
theorem og_astoreN (X : OSt Z EL a0 n0 h0 ws own bytes mx p l e R s m args below meth c sv T h k n) (pc' : Nat) (l' : Array Slot) {j : Fin 4} {x : Value} (hd : decode bytes pc = .ok (.astore_n j, 1)) (hv : x.isRef = true) (hl : storeLocals Ls j.val x = some l') (hq : pc' = pc + 1) (K : OGo p.tables e below P T (mkF m pc' l' st)) : OGo p.tables e below P T (mkF m pc Ls (x :: st)) := by
  subst hq
  exact og (fun _ q => XS.astoreN X.here X.hx rfl (X.hd hd) rfl hv hl q) K
theorem og_iinc (X : OSt Z EL a0 n0 h0 ws own bytes mx p l e R s m args below meth c sv T h k n) (pc' : Nat) (l' : Array Slot) {j : Nat} {i : Int} {x : Int32} (hd : decode bytes pc = .ok (.iinc j i, 3)) (hl : Ls[j]? = some (.val (.int x))) (hl' : storeLocals Ls j (.int (x + Int32.ofInt i)) = some l') (hq : pc' = pc + 3) (K : OGo p.tables e below P T (mkF m pc' l' st)) : OGo p.tables e below P T (mkF m pc Ls st) := by
  subst hq
  exact og (fun _ q => XS.iinc X.here X.hx rfl (X.hd hd) hl hl' q) K
theorem og_goto (X : OSt Z EL a0 n0 h0 ws own bytes mx p l e R s m args below meth c sv T h k n) (pc' : Nat)  {o : Int} (hd : decode bytes pc = .ok (.goto o, 3))  (ho : 0 ≤ (pc : Int) + o) (hp : ((pc : Int) + o).toNat = pc') (K : OGo p.tables e below P T (mkF m pc' Ls st)) : OGo p.tables e below P T (mkF m pc Ls st) := og (fun _ q => XS.goto X.here X.hx rfl rfl (X.hd hd) ho hp q) K
theorem og_ifY (X : OSt Z EL a0 n0 h0 ws own bytes mx p l e R s m args below meth c sv T h k n) (pc' : Nat) {cd : ClassFile.Cond} {x : Int32} {o : Int} (hd : decode bytes pc = .ok (.ifCond cd o, 3)) (hc : ifCond.holds cd x = true) (ho : 0 ≤ (pc : Int) + o) (hp : ((pc : Int) + o).toNat = pc') (K : OGo p.tables e below P T (mkF m pc' Ls st)) : OGo p.tables e below P T (mkF m pc Ls (.int x :: st)) := og (fun _ q => XS.ifYes X.here X.hx rfl rfl (X.hd hd) rfl hc ho hp q) K
theorem og_icmpY (X : OSt Z EL a0 n0 h0 ws own bytes mx p l e R s m args below meth c sv T h k n) (pc' : Nat) {cd : ClassFile.Cond} {x y : Int32} {o : Int} (hd : decode bytes pc = .ok (.if_icmp cd o, 3)) (hc : if_icmp.holds cd x y = true) (ho : 0 ≤ (pc : Int) + o) (hp : ((pc : Int) + o).toNat = pc') (K : OGo p.tables e below P T (mkF m pc' Ls st)) : OGo p.tables e below P T (mkF m pc Ls (.int y :: .int x :: st)) := og (fun _ q => XS.icmpYes X.here X.hx rfl rfl (X.hd hd) rfl hc ho hp q) K
theorem og_nullY (X : OSt Z EL a0 n0 h0 ws own bytes mx p l e R s m args below meth c sv T h k n) (pc' : Nat)  {o : Int} (hd : decode bytes pc = .ok (.ifnull o, 3))  (ho : 0 ≤ (pc : Int) + o) (hp : ((pc : Int) + o).toNat = pc') (K : OGo p.tables e below P T (mkF m pc' Ls st)) : OGo p.tables e below P T (mkF m pc Ls (.null :: st)) := og (fun _ q => XS.ifnullYes X.here X.hx rfl rfl (X.hd hd) rfl ho hp q) K
theorem og_nonnullY (X : OSt Z EL a0 n0 h0 ws own bytes mx p l e R s m args below meth c sv T h k n) (pc' : Nat) {b : Addr} {o : Int} (hd : decode bytes pc = .ok (.ifnonnull o, 3))  (ho : 0 ≤ (pc : Int) + o) (hp : ((pc : Int) + o).toNat = pc') (K : OGo p.tables e below P T (mkF m pc' Ls st)) : OGo p.tables e below P T (mkF m pc Ls (.ref b :: st)) := og (fun _ q => XT.ifnonnullYes X.here X.hx rfl rfl (X.hd hd) rfl ho hp q) K
theorem og_ifN (X : OSt Z EL a0 n0 h0 ws own bytes mx p l e R s m args below meth c sv T h k n) (pc' : Nat) {cd : ClassFile.Cond} {o : Int} {x : Int32} (hd : decode bytes pc = .ok (.ifCond cd o, 3)) (hc : ifCond.holds cd x = false) (hq : pc' = pc + 3) (K : OGo p.tables e below P T (mkF m pc' Ls st)) : OGo p.tables e below P T (mkF m pc Ls (.int x :: st)) := by
  subst hq
  exact og (fun _ q => XS.ifNo X.here X.hx rfl (X.hd hd) rfl hc q) K
theorem og_icmpN (X : OSt Z EL a0 n0 h0 ws own bytes mx p l e R s m args below meth c sv T h k n) (pc' : Nat) {cd : ClassFile.Cond} {o : Int} {x y : Int32} (hd : decode bytes pc = .ok (.if_icmp cd o, 3)) (hc : if_icmp.holds cd x y = false) (hq : pc' = pc + 3) (K : OGo p.tables e below P T (mkF m pc' Ls st)) : OGo p.tables e below P T (mkF m pc Ls (.int y :: .int x :: st)) := by
  subst hq
  exact og (fun _ q => XS.icmpNo X.here X.hx rfl (X.hd hd) rfl hc q) K
theorem og_nullN (X : OSt Z EL a0 n0 h0 ws own bytes mx p l e R s m args below meth c sv T h k n) (pc' : Nat) {o : Int} {b : Addr} (hd : decode bytes pc = .ok (.ifnull o, 3))  (hq : pc' = pc + 3) (K : OGo p.tables e below P T (mkF m pc' Ls st)) : OGo p.tables e below P T (mkF m pc Ls (.ref b :: st)) := by
  subst hq
  exact og (fun _ q => XS.ifnullNo X.here X.hx rfl (X.hd hd) rfl q) K
theorem og_nonnullN (X : OSt Z EL a0 n0 h0 ws own bytes mx p l e R s m args below meth c sv T h k n) (pc' : Nat) {o : Int} (hd : decode bytes pc = .ok (.ifnonnull o, 3))  (hq : pc' = pc + 3) (K : OGo p.tables e below P T (mkF m pc' Ls st)) : OGo p.tables e below P T (mkF m pc Ls (.null :: st)) := by
  subst hq
  exact og (fun _ q => XT.ifnonnullNo X.here X.hx rfl (X.hd hd) rfl q) K
theorem og_acmpN (X : OSt Z EL a0 n0 h0 ws own bytes mx p l e R s m args below meth c sv T h k n) (pc' : Nat) {cd : ClassFile.ACond} {o : Int} {x y : Value} (hd : decode bytes pc = .ok (.if_acmp cd o, 3)) (hx' : x.isRef = true) (hy' : y.isRef = true) (hc : Jvm.Free.XT.acmp cd x y = false) (hq : pc' = pc + 3) (K : OGo p.tables e below P T (mkF m pc' Ls st)) : OGo p.tables e below P T (mkF m pc Ls (y :: x :: st)) := by
  subst hq
  exact og (fun _ q => XT.acmpNo X.here X.hx rfl (X.hd hd) rfl hx' hy' hc q) K
theorem own_nc8 (y : Int32) : nar .char (y &&& 255) = y &&& 255 := i2c_mask y
theorem own_lat8 (x : Int32) : ¬ (x &&& 255) < 0 ∧ ¬ (255 : Int32) < (x &&& 255) := by
  have t : ∀ k : Fin 256, ¬ (Int32.ofNat k.val) < 0 ∧ ¬ (255 : Int32) < (Int32.ofNat k.val) := by decide +kernel
  have h : (x &&& 255).toBitVec.toNat < 256 := by
    simp only [Int32.toBitVec_and, BitVec.toNat_and]
    exact Nat.lt_succ_of_le Nat.and_le_right
  have e : (x &&& 255) = Int32.ofNat (x &&& 255).toBitVec.toNat := by
    apply Int32.toBitVec_inj.mp
    show _ = BitVec.ofNat 32 _
    rw [BitVec.ofNat_toNat]; simp
  rw [e]
  exact t ⟨_, h⟩
theorem own_up8 {c : Int32} (h : ¬ (255 : Int32) < c) : ¬ (65535 : Int32) < c := fun q => h (by rw [Int32.lt_iff_toInt_lt] at q ⊢; have e1 : (65535 : Int32).toInt = 65535 := rfl; have e2 : (255 : Int32).toInt = 255 := rfl; omega)
def own_sti (Z : State) (C n d : String) : Int32 := match (Term.static C n d).eval #[] Z none [] Z with | some (.int z) => z | _ => 0
theorem own_sti_of {Z : State} {C n d : String} {v : Int32} {a : Array Value} (h : (Term.static C n d).eval a Z none [] Z = some (.int v)) : own_sti Z C n d = v := by
  have q : (Term.static C n d).eval #[] Z none [] Z = some (.int v) := h
  simp [own_sti, q]
theorem own_l0 {P : Int32 → Prop} : ∀ c ∈ ([] : List Int32), P c := fun _ q => nomatch q
theorem own_lS {P : Int32 → Prop} {y : Int32} {M : List Int32} (q : P y) (r : ∀ x ∈ M, P x) : ∀ x ∈ y :: M, P x := fun x z => (List.mem_cons.mp z).elim (fun u => u ▸ q) (r x)
def own_N (x : Int32) : Nat := x.toBitVec.toNat
theorem own_N_inj {x y : Int32} : own_N x = own_N y ↔ x = y := ⟨fun h => Int32.toBitVec_inj.mp (BitVec.eq_of_toNat_eq h), fun h => by rw [h]⟩
theorem own_N_and {x m : Int32} (k : Nat) (hm : m.toBitVec.toNat = 2 ^ k - 1) : own_N (x &&& m) = own_N x % 2 ^ k := by
  unfold own_N; rw [Int32.toBitVec_and, BitVec.toNat_and, hm, Nat.and_two_pow_sub_one_eq_mod]
theorem own_N3 (x : Int32) : own_N (x &&& 3) = own_N x % 4 := own_N_and 2 rfl
theorem own_nbb (y : Int32) : (y.toInt8.toInt32).toInt8.toInt32 = y.toInt8.toInt32 := by simp
theorem own_and3 (y : Int32) : y &&& 3 = 0 ∨ y &&& 3 = 1 ∨ y &&& 3 = 2 ∨ y &&& 3 = 3 := by
  have c0 : own_N 0 = 0 := rfl
  have c1 : own_N 1 = 1 := rfl
  have c2 : own_N 2 = 2 := rfl
  have c3 : own_N 3 = 3 := rfl
  simp only [← own_N_inj, own_N3, c0, c1, c2, c3]
  omega
theorem own_new (X : OSt Z EL a0 n0 h0 ws own bytes mx p l e R s m args below meth c sv T h k n) (pc' : Nat) {C : String} {index z : Nat} (hd : decode bytes pc = .ok (.new index, 3)) (w : (Cond.classLink own index C).before a0 Z = true) (wi : (Cond.instantiable C z).before a0 Z = true) (wz : (Cond.initialized C).before a0 Z = true) (hc : k + 1 ≤ R.cells) (hl : n + z ≤ R.slots) (hq : pc' = pc + 3)
    (K : ∀ (T' : State) (h' : Heap) (b : Addr), OSt Z EL a0 n0 h0 ws own bytes mx p l e R s m args below meth c (b :: sv) T' h' (k + 1) (n + z) → Keep h h' [] → h.size ≤ b → b < h'.size → Exa Z h' b C → (∀ {O nm d : String} {ty : FieldType}, Laid Z a0 C O nm d → parseFieldDescriptor d = some ty → Fld Z h' b O nm d (defaultValue ty)) → OGo p.tables e below P T' (mkF m pc' Ls (.ref b :: st))) : OGo p.tables e below P T (mkF m pc Ls st) := by
  subst hq
  obtain ⟨hx, hby, hml, eT, hlk, vm0, locs, Y, I⟩ := X
  obtain ⟨T', h', Y', e', E, A, D, -, stp⟩ := newO Y hx (show Z.Warmed39 (s.setVm vm0).vm from I.2.2.2.2.1) (show (s.setVm vm0).vm.findClass own = _ from I.2.2.2.2.2.1) w wi wz eT (g := mkF m pc Ls st) rfl (hb hby hd) hc hl
  exact og stp (K T' h' h.size ⟨hx, hby, hml, e', hlk, vm0, locs, Y', I.new E (Nat.le_refl _) A.lt⟩ ((Keep.refl _ _).ext E) (Nat.le_refl _) A.lt A D)
theorem own_anew (X : OSt Z EL a0 n0 h0 ws own bytes mx p l e R s m args below meth c sv T h k n) (pc' : Nat) {C : String} {index : Nat} {z : Int32} (hd : decode bytes pc = .ok (.anewarray index, 3)) (w : (Cond.classLink own index C).before a0 Z = true) (w2 : (Cond.arrayOver (.object C)).before a0 Z = true) (hz : ¬ z < 0) {cap : Nat} (hcap : z.toNatClampNeg = cap) (hbig : cap * 8 ≤ 536870912) (hc : k + 1 ≤ R.cells) (hl : n + cap ≤ R.slots) (hq : pc' = pc + 3)
    (K : ∀ (T' : State) (h' : Heap) (b : Addr) (kb : ClassId), OSt Z EL a0 n0 h0 ws own bytes mx p l e R s m args below meth c (b :: sv) T' h' (k + 1) (n + cap) → Keep h h' [] → h.size ≤ b → b < h'.size → Arv Z h' b kb (.object C) z (List.replicate cap .null) .null → Ovr Z kb C → OGo p.tables e below P T' (mkF m pc' Ls (.ref b :: st))) : OGo p.tables e below P T (mkF m pc Ls (.int z :: st)) := by
  subst hq
  obtain ⟨hx, hby, hml, eT, hlk, vm0, locs, Y, I⟩ := X
  obtain ⟨T', h', kb, Y', e', E, A, O, stp⟩ := newR Y hx (show Z.Warmed39 (s.setVm vm0).vm from I.2.2.2.2.1) (show (s.setVm vm0).vm.findClass own = _ from I.2.2.2.2.2.1) w w2 eT (g := mkF m pc Ls (.int z :: st)) rfl (hb hby hd) rfl hz (cap := cap) (Nat.le_of_eq hcap) hbig hc hl
  have V := (Arv.new A hz).pad (pad_rep [] (defaultValue (.object C)) cap)
  rw [List.nil_append] at V
  exact og stp (K T' h' h.size kb ⟨hx, hby, hml, e', hlk, vm0, locs, Y', I.new E (Nat.le_refl _) A.lt⟩ ((Keep.refl _ _).ext E) (Nat.le_refl _) A.lt V O)
theorem own_put (X : OSt Z EL a0 n0 h0 ws own bytes mx p l e R s m args below meth c sv T h k n) (pc' : Nat) {R0 O nm d host C : String} {index kk : Nat} {ty : FieldType} {a : Addr} {v old : Value} (hd : decode bytes pc = .ok (.putfield index, 3)) (w : (Cond.fieldLink own index R0 nm d).before a0 Z = true ∨ (Cond.fieldLinkNest own index R0 nm d host).before a0 Z = true) (via : Via Z R0 O nm d)
    (F : Fld Z h a O nm d old) (E : Exa Z h a C) (L : (Cond.lays C O nm d).before a0 Z = true ∨ ((Cond.laysFinal C O nm d).before a0 Z = true ∧ own = O ∧ meth.name = "<init>")) (wi : (Cond.instantiable C kk).before a0 Z = true) (hty : parseFieldDescriptor d = some ty) (hn : narrow ty v = v) (hf : fits ty v = true) (ha : a ∈ sv) (hq : pc' = pc + 3)
    (K : ∀ (T' : State) (h' : Heap), OSt Z EL a0 n0 h0 ws own bytes mx p l e R s m args below meth c sv T' h' k n → Wr h h' a (RoadKit.slotOf Z O nm d) v → Keep h h' [a] → Fld Z h' a O nm d v → OGo p.tables e below P T' (mkF m pc' Ls st)) : OGo p.tables e below P T (mkF m pc Ls (v :: .ref a :: st)) := by
  subst hq
  obtain ⟨hx, hby, hml, eT, hlk, vm0, locs, Y, I⟩ := X
  obtain ⟨T', h', Y', e', W, stp⟩ := putF Y hx (show Z.Warmed39 (s.setVm vm0).vm from I.2.2.2.2.1) (show (s.setVm vm0).vm.findClass own = _ from I.2.2.2.2.2.1) w via eT F E L wi hty hn hf (g := mkF m pc Ls (v :: .ref a :: st)) rfl rfl (hb hby hd)
  exact og stp (K T' h' ⟨hx, hby, hml, e', hlk, vm0, _, Y', I.wr ha W⟩ W (Keep.of_wr W) (F.same W))
theorem own_get (X : OSt Z EL a0 n0 h0 ws own bytes mx p l e R s m args below meth c sv T h k n) (pc' : Nat) {R0 O nm d host : String} {index : Nat} {a : Addr} {v : Value} (hd : decode bytes pc = .ok (.getfield index, 3)) (w : (Cond.fieldLink own index R0 nm d).before a0 Z = true ∨ (Cond.fieldLinkNest own index R0 nm d host).before a0 Z = true) (via : Via Z R0 O nm d) (F : Fld Z h a O nm d v) (hq : pc' = pc + 3)
    (K : ∀ (T' : State), OSt Z EL a0 n0 h0 ws own bytes mx p l e R s m args below meth c sv T' h k n → OGo p.tables e below P T' (mkF m pc' Ls (v :: st))) : OGo p.tables e below P T (mkF m pc Ls (.ref a :: st)) := by
  subst hq
  obtain ⟨hx, hby, hml, eT, hlk, vm0, locs, Y, I⟩ := X
  obtain ⟨T', Y', e', stp⟩ := getF Y hx (show Z.Warmed39 (s.setVm vm0).vm from I.2.2.2.2.1) (show (s.setVm vm0).vm.findClass own = _ from I.2.2.2.2.2.1) w via eT F (g := mkF m pc Ls (.ref a :: st)) rfl rfl (hb hby hd)
  exact og stp (K T' ⟨hx, hby, hml, e', hlk, vm0, _, Y', I⟩)
theorem own_getS (X : OSt Z EL a0 n0 h0 ws own bytes mx p l e R s m args below meth c sv T h k n) (pc' : Nat) {R0 O nm d host : String} {index : Nat} {v : Value} (hd : decode bytes pc = .ok (.getstatic index, 3)) (w : (Cond.fieldLink own index R0 nm d).before a0 Z = true ∨ (Cond.fieldLinkNest own index R0 nm d host).before a0 Z = true) (via : Via Z R0 O nm d) (F : Sta Z Z.heap O nm d v) (hq : pc' = pc + 3)
    (K : ∀ (T' : State), OSt Z EL a0 n0 h0 ws own bytes mx p l e R s m args below meth c sv T' h k n → OGo p.tables e below P T' (mkF m pc' Ls (v :: st))) : OGo p.tables e below P T (mkF m pc Ls st) := by
  subst hq
  have O1 := X.old
  obtain ⟨hx, hby, hml, eT, hlk, vm0, locs, Y, I⟩ := X
  obtain ⟨T', Y', e', stp⟩ := getS2 Y hx (show Z.Warmed39 (s.setVm vm0).vm from I.2.2.2.2.1) (show (s.setVm vm0).vm.findClass own = _ from I.2.2.2.2.2.1) w via eT (F.ext O1.2) (g := mkF m pc Ls st) rfl (hb hby hd)
  exact og stp (K T' ⟨hx, hby, hml, e', hlk, vm0, _, Y', I⟩)
theorem own_cast (X : OSt Z EL a0 n0 h0 ws own bytes mx p l e R s m args below meth c sv T h k n) (pc' : Nat) {C : String} {index : Nat} {a : Addr} (hd : decode bytes pc = .ok (.checkcast index, 3)) (w : (Cond.classLink own index C).before a0 Z = true) (F : Ins Z h a C true) (hq : pc' = pc + 3)
    (K : ∀ (T' : State), OSt Z EL a0 n0 h0 ws own bytes mx p l e R s m args below meth c sv T' h k n → OGo p.tables e below P T' (mkF m pc' Ls (.ref a :: st))) : OGo p.tables e below P T (mkF m pc Ls (.ref a :: st)) := by
  subst hq
  obtain ⟨hx, hby, hml, eT, hlk, vm0, locs, Y, I⟩ := X
  obtain ⟨T', Y', e', stp⟩ := castY Y hx (show Z.Warmed39 (s.setVm vm0).vm from I.2.2.2.2.1) (show (s.setVm vm0).vm.findClass own = _ from I.2.2.2.2.2.1) w eT F (g := mkF m pc Ls (.ref a :: st)) rfl rfl (hb hby hd)
  exact og stp (K T' ⟨hx, hby, hml, e', hlk, vm0, _, Y', I⟩)
theorem own_obj0 (X : OSt Z EL a0 n0 h0 ws own bytes mx p l e R s m args below meth c sv T h k n) (pc' : Nat) {index : Nat} {a : Addr} (hd : decode bytes pc = .ok (.invokespecial index, 3)) (w1 : (Cond.methodLink own index Lib.objectInit).before a0 Z = true) (w2 : (Cond.instanceMethod Lib.objectInit).before a0 Z = true) (w3 : (Cond.code Lib.objectInit ⟨#[0xb1]⟩ 1 none).before a0 Z = true) (hsz : Ls.size = mx) {W : Nat} (hW : (st.map fun v => v.category).sum = W) (hf : 1 ≤ R.frames) (hl : W + 12 ≤ R.locals) (hq : pc' = pc + 3)
    (K : ∀ (T' : State), OSt Z EL a0 n0 h0 ws own bytes mx p l e R s m args below meth c sv T' h k n → OGo p.tables e below P T' (mkF m pc' Ls st)) : OGo p.tables e below P T (mkF m pc Ls (.ref a :: st)) := by
  subst hq
  obtain ⟨hx, hby, hml, eT, hlk, vm0, locs, Y, I⟩ := X
  obtain ⟨T', Y', e', stp⟩ := initO Y hx (show Z.Warmed39 (s.setVm vm0).vm from I.2.2.2.2.1) (show (s.setVm vm0).vm.findClass own = _ from I.2.2.2.2.2.1) w1 w2 w3 eT (g := mkF m pc Ls (.ref a :: st)) rfl (by rw [hml]; exact hsz) rfl (hb hby hd) hf (W := W) (by show 2 * 0 + _ ≤ _; rw [hW]; omega) hl
  exact og stp (K T' ⟨hx, hby, hml, e', hlk, vm0, _, Y', I⟩)
theorem own_inb {cl : Cell} {z j : Int32} (S : cl.slots.size = z.toNatClampNeg) (h1 : ¬ j < 0) (h2 : j < z) : ¬ (j < 0 ∨ cl.slots.size ≤ j.toNatClampNeg) := inb_of S ⟨h1, h2⟩
theorem own_stC (X : OSt Z EL a0 n0 h0 ws own bytes mx p l e R s m args below meth c sv T h k n) (pc' : Nat) {a : Addr} {kb : ClassId} {z j x x' : Int32} {vs : List Value} {dv : Value} (hd : decode bytes pc = .ok (.castore, 1)) (A : Arv Z h a kb .char z vs dv) (hx' : nar .char x = x') (h1 : ¬ j < 0) (h2 : j < z) {i : Nat} (hi : j.toNatClampNeg = i) (hl : i < vs.length) (ha : a ∈ sv) (hq : pc' = pc + 1)
    (K : ∀ (T' : State) (h' : Heap), OSt Z EL a0 n0 h0 ws own bytes mx p l e R s m args below meth c sv T' h' k n → Wr h h' a j.toNatClampNeg (.int x') → Keep h h' [a] → Arv Z h' a kb .char z (vs.set i (.int x')) dv → OGo p.tables e below P T' (mkF m pc' Ls st)) : OGo p.tables e below P T (mkF m pc Ls (.int x :: .int j :: .ref a :: st)) := by
  subst hq hx'
  obtain ⟨hx, hby, hml, eT, hlk, vm0, locs, Y, I⟩ := X
  obtain ⟨cl, Ar, q, S, N, Hs, G⟩ := A
  obtain ⟨T', h', Y', e', W, stp⟩ := stC Y hx (show Z.Warmed39 (s.setVm vm0).vm from I.2.2.2.2.1) eT Ar (j := j) (x := x) (own_inb S h1 h2) (g := mkF m pc Ls (.int x :: .int j :: .ref a :: st)) rfl rfl (hb hby hd)
  exact og stp (K T' h' ⟨hx, hby, hml, e', hlk, vm0, _, Y', I.wr ha W⟩ W (Keep.of_wr W) (Arv.set Ar q S N Hs G (fits_nar_char _) W i hi hl))
theorem own_stB (X : OSt Z EL a0 n0 h0 ws own bytes mx p l e R s m args below meth c sv T h k n) (pc' : Nat) {a : Addr} {kb : ClassId} {z j x x' : Int32} {vs : List Value} {dv : Value} (hd : decode bytes pc = .ok (.bastore, 1)) (A : Arv Z h a kb .byte z vs dv) (hx' : x.toInt8.toInt32 = x') (h1 : ¬ j < 0) (h2 : j < z) {i : Nat} (hi : j.toNatClampNeg = i) (hl : i < vs.length) (ha : a ∈ sv) (hq : pc' = pc + 1)
    (K : ∀ (T' : State) (h' : Heap), OSt Z EL a0 n0 h0 ws own bytes mx p l e R s m args below meth c sv T' h' k n → Wr h h' a j.toNatClampNeg (.int x') → Keep h h' [a] → Arv Z h' a kb .byte z (vs.set i (.int x')) dv → OGo p.tables e below P T' (mkF m pc' Ls st)) : OGo p.tables e below P T (mkF m pc Ls (.int x :: .int j :: .ref a :: st)) := by
  subst hq hx'
  obtain ⟨hx, hby, hml, eT, hlk, vm0, locs, Y, I⟩ := X
  obtain ⟨cl, Ar, q, S, N, Hs, G⟩ := A
  obtain ⟨T', h', Y', e', W, stp⟩ := stB Y hx (show Z.Warmed39 (s.setVm vm0).vm from I.2.2.2.2.1) eT Ar (j := j) (x := x) (own_inb S h1 h2) (g := mkF m pc Ls (.int x :: .int j :: .ref a :: st)) rfl rfl (hb hby hd)
  exact og stp (K T' h' ⟨hx, hby, hml, e', hlk, vm0, _, Y', I.wr ha W⟩ W (Keep.of_wr W) (Arv.set Ar q S N Hs G (fits_nar_byte _) W i hi hl))
theorem own_stR (X : OSt Z EL a0 n0 h0 ws own bytes mx p l e R s m args below meth c sv T h k n) (pc' : Nat) {a : Addr} {kb : ClassId} {ty : FieldType} {z j : Int32} {v : Value} {vs : List Value} {dv : Value} (hd : decode bytes pc = .ok (.aastore, 1)) (A : Arv Z h a kb ty z vs dv) (hty : ty.isReference = true) (hf : fits ty v = true) (F : Sto Z h a v) (h1 : ¬ j < 0) (h2 : j < z) {i : Nat} (hi : j.toNatClampNeg = i) (hl : i < vs.length) (ha : a ∈ sv) (hq : pc' = pc + 1)
    (K : ∀ (T' : State) (h' : Heap), OSt Z EL a0 n0 h0 ws own bytes mx p l e R s m args below meth c sv T' h' k n → Wr h h' a j.toNatClampNeg v → Keep h h' [a] → Arv Z h' a kb ty z (vs.set i v) dv → OGo p.tables e below P T' (mkF m pc' Ls st)) : OGo p.tables e below P T (mkF m pc Ls (v :: .int j :: .ref a :: st)) := by
  subst hq
  obtain ⟨hx, hby, hml, eT, hlk, vm0, locs, Y, I⟩ := X
  obtain ⟨cl, Ar, q, S, N, Hs, G⟩ := A
  obtain ⟨T', h', Y', e', W, stp⟩ := stR Y hx (show Z.Warmed39 (s.setVm vm0).vm from I.2.2.2.2.1) eT Ar (j := j) (v := v) (own_inb S h1 h2) hty F (g := mkF m pc Ls (v :: .int j :: .ref a :: st)) rfl rfl (hb hby hd)
  exact og stp (K T' h' ⟨hx, hby, hml, e', hlk, vm0, _, Y', I.wr ha W⟩ W (Keep.of_wr W) (Arv.set Ar q S N Hs G hf W i hi hl))
theorem own_len (X : OSt Z EL a0 n0 h0 ws own bytes mx p l e R s m args below meth c sv T h k n) (pc' : Nat) {a : Addr} {kb : ClassId} {ty : FieldType} {z : Int32} {vs : List Value} {dv : Value} (hd : decode bytes pc = .ok (.arraylength, 1)) (A : Arv Z h a kb ty z vs dv) (hq : pc' = pc + 1) (K : OGo p.tables e below P T (mkF m pc' Ls (.int z :: st))) : OGo p.tables e below P T (mkF m pc Ls (.ref a :: st)) := by
  subst hq
  obtain ⟨hx, hby, hml, eT, hlk, vm0, locs, Y, I⟩ := X
  obtain ⟨cl, Ar, q, S, N, Hs, G⟩ := A
  refine og (fun _ r => Y.arraylength hx (by rw [eT]; exact Ar.1) (State.isArrayOf_alike (show Z.Warmed39 (s.setVm vm0).vm from I.2.2.2.2.1).alike Ar.2.1) (g := mkF m pc Ls (.ref a :: st)) rfl rfl (hb hby hd) _ r) ?_
  rw [len_of S N]; exact K
theorem own_ldC (X : OSt Z EL a0 n0 h0 ws own bytes mx p l e R s m args below meth c sv T h k n) (pc' : Nat) {a : Addr} {kb : ClassId} {z j : Int32} {v : Value} {vs : List Value} {dv : Value} (hd : decode bytes pc = .ok (.caload, 1)) (A : Arv Z h a kb .char z vs dv) (h1 : ¬ j < 0) (h2 : j < z) (hv : vs.getD j.toNatClampNeg dv = v) (hq : pc' = pc + 1) (K : OGo p.tables e below P T (mkF m pc' Ls (v :: st))) : OGo p.tables e below P T (mkF m pc Ls (.int j :: .ref a :: st)) := by
  subst hq
  obtain ⟨hx, hby, hml, eT, hlk, vm0, locs, Y, I⟩ := X
  obtain ⟨cl, Ar, q, S, N, Hs, G⟩ := A
  exact og (fun _ r => Y.caload hx (j := j) (v := v) (by rw [eT]; exact Ar.1) (State.isArrayOf_alike (show Z.Warmed39 (s.setVm vm0).vm from I.2.2.2.2.1).alike Ar.2.1) Ar.2.2 (own_inb S h1 h2) (Hs.at (own_inb S h1 h2) hv) (g := mkF m pc Ls (.int j :: .ref a :: st)) rfl rfl (hb hby hd) _ r) K
theorem own_ldB (X : OSt Z EL a0 n0 h0 ws own bytes mx p l e R s m args below meth c sv T h k n) (pc' : Nat) {a : Addr} {kb : ClassId} {z j : Int32} {v : Value} {vs : List Value} {dv : Value} (hd : decode bytes pc = .ok (.baload, 1)) (A : Arv Z h a kb .byte z vs dv) (h1 : ¬ j < 0) (h2 : j < z) (hv : vs.getD j.toNatClampNeg dv = v) (hq : pc' = pc + 1) (K : OGo p.tables e below P T (mkF m pc' Ls (v :: st))) : OGo p.tables e below P T (mkF m pc Ls (.int j :: .ref a :: st)) := by
  subst hq
  obtain ⟨hx, hby, hml, eT, hlk, vm0, locs, Y, I⟩ := X
  obtain ⟨cl, Ar, q, S, N, Hs, G⟩ := A
  exact og (fun _ r => Y.baloadBytes hx (j := j) (v := v) (by rw [eT]; exact Ar.1) (State.isArrayOf_alike (show Z.Warmed39 (s.setVm vm0).vm from I.2.2.2.2.1).alike Ar.2.1) Ar.2.2 (own_inb S h1 h2) (Hs.at (own_inb S h1 h2) hv) (g := mkF m pc Ls (.int j :: .ref a :: st)) rfl rfl (hb hby hd) _ r) K
theorem own_ldR (X : OSt Z EL a0 n0 h0 ws own bytes mx p l e R s m args below meth c sv T h k n) (pc' : Nat) {a : Addr} {kb : ClassId} {ty : FieldType} {z j : Int32} {v : Value} {vs : List Value} {dv : Value} (hd : decode bytes pc = .ok (.aaload, 1)) (A : Arv Z h a kb ty z vs dv) (hty : ty.isReference = true) (h1 : ¬ j < 0) (h2 : j < z) (hv : vs.getD j.toNatClampNeg dv = v) (hq : pc' = pc + 1) (K : OGo p.tables e below P T (mkF m pc' Ls (v :: st))) : OGo p.tables e below P T (mkF m pc Ls (.int j :: .ref a :: st)) := by
  subst hq
  obtain ⟨hx, hby, hml, eT, hlk, vm0, locs, Y, I⟩ := X
  obtain ⟨cl, Ar, q, S, N, Hs, G⟩ := A
  exact og (fun _ r => Y.aaload hx (j := j) (v := v) (by rw [eT]; exact Ar.1) (State.isArrayOf_alike (show Z.Warmed39 (s.setVm vm0).vm from I.2.2.2.2.1).alike Ar.2.1) hty Ar.2.2 (own_inb S h1 h2) (Hs.at (own_inb S h1 h2) hv) (g := mkF m pc Ls (.int j :: .ref a :: st)) rfl rfl (hb hby hd) _ r) K
def OMet (l : Launch) (Z : State) (EL : List (String × Nat)) (n0 : Nat) (y : MethodName) (wc : List Jvm.Cond) (rm : Room) (as' : Array Value) (h0 : Heap) (ws : List Addr) (Q : Option Value → Heap → Prop) : Prop :=
  MetFree l y (head1 wc rm) (fun a U => a = as' ∧ Z.Warmed39 U.vm ∧ U.heap = h0 ∧ CHv Z EL U.vm h0 ∧ ∀ x ∈ ws, Safe Z EL U.vm h0 x) (fun _ _ _ _ _ => True) (fun _ U o U' => OEnd Z EL n0 h0 ws U Q rm.cells rm.slots o U')
theorem own_enter {y : MethodName} {ret : Option FieldType} {wc : List Jvm.Cond} {rm : Room} {as' : Array Value} {Q : Option Value → Heap → Prop} (Ls : Array Slot) (hn : plainFor y = true) (ef : ∀ m, entryFrame m as' mx = mkF m 0 Ls []) (hEL : EW Z a0 EL) (O : Old Z n0 h0) (hlt : ∀ x ∈ ws, n0 ≤ x ∧ x < h0.size)
    (K : ∀ (p : Program) (e : Env) (s : State) (m : MethodId) (below : List Frame) (meth : Method) (c : Code) (T : State), OSt Z EL a0 n0 h0 ws y.cls bytes mx p l e rm s m as' below meth c ws T h0 0 0 → meth.name = y.name → meth.sig.returnType = ret → OGo p.tables e below (OEnd Z EL n0 h0 ws s Q rm.cells rm.slots) T (mkF m 0 Ls [])) :
    OMet l Z EL n0 y (Jvm.Cond.code y bytes mx ret :: wc) rm as' h0 ws Q := by
  refine MetFree.of_bodySF hn hisR ?_
  intro p e s m args below meth c s₁ Bd hml hP _
  obtain ⟨rfl, hZ, hh, hC, hS⟩ := hP
  have Y : Stand p l e rm (s.setVm s.vm) m args below meth c s₁ [] 0 0 := Stand.of_body Bd
  have hown := findClass_of_methodNamed Bd.named
  have e0 : s₁.heap = h0 := by rw [← hh, Bd.state]; rfl
  obtain ⟨t, o, g1, g2⟩ := K p e s m below meth c s₁ ⟨Bd.exec, Bd.bytes, hml, e0, Bd.notSynchronized, s.vm, [], Y, hh, O, Keep.refl _ _, ⟨_, (State.WarmedH.refl s).since _, Nat.le_refl _⟩, hZ, hown, hEL, by rw [hh]; exact CHr.refl hC, fun _ => rfl, Fr.nil _, fun x hx => ⟨(hlt x hx).1, (hlt x hx).2, Or.inl hx, hS x hx⟩⟩ (name_of_methodNamed Bd.named Bd.method).1 Bd.returns
  exact ⟨t, o, castTop (ef m) g1, g2⟩
theorem own_leave (X : OSt Z EL a0 n0 h0 ws own bytes mx p l e R s m args below meth c sv T h k n) {v : Option Value} {Q : Option Value → Heap → Prop} {k' n' : Nat} (hv : meth.sig.returnType = none → v = none) (hk : k ≤ k') (hn : n ≤ n') (hQ : Q v h) :
    ∃ fs, (∀ (f : JFrame) (acts : List Action), f.method = m → f.locked = none → f.entered = [] → (doReturn e (T.setTop f) acts v).1 = T.setFrames fs) ∧ (T.setFrames fs).status = .running ∧ Ended (T.setFrames fs) below (.returned v) ∧ OEnd Z EL n0 h0 ws s Q k' n' (.returned v) (T.setFrames fs) := by
  obtain ⟨hx, hby, hml, eT, hlk, vm0, locs, Y, b1, b2, b3, ⟨k0, b4, b4'⟩, b5, b6, b7, b8, b9, b10, b11⟩ := X.more hk hn
  obtain ⟨fs, h1, h2, h3, hW, hs⟩ := Y.leave hv hlk
  have C := CHv.at Y b5 b7 b8.1
  obtain ⟨q1, q2, q3⟩ := b4.ended (U := T.setFrames fs) hW (by show k0 ≤ T.heap.size; rw [eT]; exact b4') hs
  refine ⟨fs, h1, h2, h3, v, locs, rfl, ⟨b10, by show Keep h0 T.heap ws; rw [eT]; exact b3, by show Q v T.heap; rw [eT]; exact hQ⟩, by show CHr Z EL s.vm s.heap T.vm T.heap; rw [eT]; exact b8.trans C, ⟨⟨v, rfl⟩, q1, q2, q3⟩, fun hnil => ?_⟩
  have := b9 hnil
  subst this
  exact ⟨⟨v, rfl⟩, hW, hs⟩
theorem own_retV (X : OSt Z EL a0 n0 h0 ws own bytes mx p l e R s m args below meth c sv T h k n) {Q : Option Value → Heap → Prop} {k' n' : Nat} (hd : decode bytes pc = .ok (.return_, 1)) (hret : meth.sig.returnType = none) (hk : k ≤ k') (hn : n ≤ n') (hQ : Q none h) : OGo p.tables e below (OEnd Z EL n0 h0 ws s Q k' n') T (mkF m pc Ls []) := by
  obtain ⟨fs, h1, h2, h3, h4⟩ := own_leave X (fun _ => rfl) hk hn hQ
  have X' := X
  obtain ⟨hx, hby, hml, eT, hlk, vm0, locs, Y, -⟩ := X'
  exact ⟨_, _, Y.returnOut hx hret (hb hby hd) h1, h2, h3, h4⟩
theorem own_ret (X : OSt Z EL a0 n0 h0 ws own bytes mx p l e R s m args below meth c sv T h k n) {Q : Option Value → Heap → Prop} {k' n' : Nat} {t : FieldType} {w : Value} {i : Instr} (hd : decode bytes pc = .ok (i, 1)) (hret : meth.sig.returnType = some t) (hnw : narrow t w = w)
    (hi : (i = .ireturn ∧ (t = .int ∨ t = .boolean ∨ t = .byte ∨ t = .char ∨ t = .short) ∧ ∃ z, w = .int z) ∨ (i = .lreturn ∧ t = .long ∧ ∃ z, w = .long z) ∨ (i = .dreturn ∧ t = .double ∧ ∃ z, w = .double z) ∨ (i = .freturn ∧ t = .float ∧ ∃ z, w = .float z) ∨ (i = .areturn ∧ t.isReference = true ∧ w.isRef = true))
    (hk : k ≤ k') (hn : n ≤ n') (hQ : Q (some w) h) : OGo p.tables e below (OEnd Z EL n0 h0 ws s Q k' n') T (mkF m pc Ls (w :: st)) := by
  obtain ⟨fs, h1, h2, h3, h4⟩ := own_leave X (fun q => by rw [hret] at q; cases q) hk hn hQ
  have X' := X
  obtain ⟨hx, hby, hml, eT, hlk, vm0, locs, Y, -⟩ := X'
  exact ⟨_, _, retOut Y hx hret hnw hi (hb hby hd) h1, h2, h3, h4⟩
theorem own_retI (X : OSt Z EL a0 n0 h0 ws own bytes mx p l e R s m args below meth c sv T h k n) {Q : Option Value → Heap → Prop} {k' n' : Nat} {z : Int32} (hd : decode bytes pc = .ok (.ireturn, 1)) (hret : meth.sig.returnType = some .int) (hk : k ≤ k') (hn : n ≤ n') (hQ : Q (some (.int z)) h) : OGo p.tables e below (OEnd Z EL n0 h0 ws s Q k' n') T (mkF m pc Ls (.int z :: st)) :=
  own_ret X hd hret rfl (Or.inl ⟨rfl, Or.inl rfl, z, rfl⟩) hk hn hQ
theorem own_retZ (X : OSt Z EL a0 n0 h0 ws own bytes mx p l e R s m args below meth c sv T h k n) {Q : Option Value → Heap → Prop} {k' n' : Nat} {z : Int32} (hd : decode bytes pc = .ok (.ireturn, 1)) (hret : meth.sig.returnType = some .boolean) (hz : narrow .boolean (.int z) = .int z) (hk : k ≤ k') (hn : n ≤ n') (hQ : Q (some (.int z)) h) : OGo p.tables e below (OEnd Z EL n0 h0 ws s Q k' n') T (mkF m pc Ls (.int z :: st)) :=
  own_ret X hd hret hz (Or.inl ⟨rfl, Or.inr (Or.inl rfl), z, rfl⟩) hk hn hQ
theorem own_retY (X : OSt Z EL a0 n0 h0 ws own bytes mx p l e R s m args below meth c sv T h k n) {Q : Option Value → Heap → Prop} {k' n' : Nat} {z : Int32} (hd : decode bytes pc = .ok (.ireturn, 1)) (hret : meth.sig.returnType = some .byte) (hz : narrow .byte (.int z) = .int z) (hk : k ≤ k') (hn : n ≤ n') (hQ : Q (some (.int z)) h) : OGo p.tables e below (OEnd Z EL n0 h0 ws s Q k' n') T (mkF m pc Ls (.int z :: st)) :=
  own_ret X hd hret hz (Or.inl ⟨rfl, Or.inr (Or.inr (Or.inl rfl)), z, rfl⟩) hk hn hQ
theorem own_narR {t : FieldType} {w : Value} (ht : t.isReference = true) (hw : w.isRef = true) : narrow t w = w := by
  rcases ref_cases hw with rfl | ⟨a, rfl⟩ <;> cases t <;> first | rfl | cases ht
theorem own_retA (X : OSt Z EL a0 n0 h0 ws own bytes mx p l e R s m args below meth c sv T h k n) {Q : Option Value → Heap → Prop} {k' n' : Nat} {t : FieldType} {w : Value} (hd : decode bytes pc = .ok (.areturn, 1)) (hret : meth.sig.returnType = some t) (ht : t.isReference = true) (hw : w.isRef = true) (hk : k ≤ k') (hn : n ≤ n') (hQ : Q (some w) h) : OGo p.tables e below (OEnd Z EL n0 h0 ws s Q k' n') T (mkF m pc Ls (w :: st)) :=
  own_ret X hd hret (own_narR ht hw) (Or.inr (Or.inr (Or.inr (Or.inr ⟨rfl, ht, hw⟩)))) hk hn hQ
theorem own_payN {vm0 : Vm} {y : MethodName} {maxL : Nat} {ret : Option FieldType} {rm : Room} {len W : Nat} {as' : Array Value} {ws' : List Addr} {Q : Option Value → Heap → Prop} {bc : ByteArray} (hnil : EL = []) (hM : OMet l Z EL n0 y [Jvm.Cond.code y bc maxL ret] rm as' h ws' Q) (hZ : Z.Warmed39 vm0) (wc : (Cond.code y bc maxL ret).before a0 Z = true) (wz : (Cond.initialized y.cls).before a0 Z = true) (hf : rm.frames + 1 ≤ R.frames) (hl : W + (maxL + 11) + rm.locals ≤ R.locals) (hEL : EW Z a0 EL) (H : CHv Z EL vm0 h) (hS : ∀ x ∈ ws', x < h.size ∧ Safe Z EL vm0 h x) :
    Back l R p e below (s.setVm vm0) args y len W (fun A a => a = as' ∧ A.U.heap = h ∧ A.cells + rm.cells ≤ R.cells ∧ A.slots + rm.slots ≤ R.slots)
      (fun A _ v B => ∃ L, (Fr n0 L ∧ Keep h B.U.heap ws' ∧ Q v B.U.heap) ∧ B.locs = A.locs ++ L ∧ B.cells = A.cells + rm.cells ∧ B.slots = A.slots + rm.slots) :=
  Back.of_free (bytes := bc) (maxL := maxL) (ret := ret) (E := fun _ _ o t L k n => k = rm.cells ∧ n = rm.slots ∧ ∃ v, o = .returned v ∧ (Fr n0 L ∧ Keep h t.heap ws' ∧ Q v t.heap)) hM hf hl
    (fun m meth c A a Y hp => have hU : Z.Warmed39 A.U.vm := wtrans (s := s.setVm vm0) hZ Y.warmed
      ⟨by show (Cond.and _ .tt).before a A.U = true; rw [Cond.before_and, mv hU wc]; rfl, mv hU wc, mv hU wz, hp.2.2.1, hp.2.2.2⟩)
    (fun m meth c A a g mk Y hp => ⟨hp.1, wtrans (s := s.setVm vm0) hZ Y.warmed, hp.2.1, (CHv.at Y hZ hEL H).1, fun x hx => (CHv.at Y hZ hEL H).safe (hS x hx).1 (hS x hx).2⟩) (fun _ _ _ _ _ _ _ _ _ => trivial)
    (fun _ _ _ _ ⟨v, L, h1, h2, _, _, h3⟩ => ⟨L, _, _, h3 hnil, rfl, rfl, v, h1, h2⟩)
    (fun m meth c A a g mk v t L k n Y hp _ _ ⟨e1, e2, v', e3, e4⟩ => by cases e3; subst e1 e2; exact ⟨L, e4, rfl, rfl, rfl⟩)
theorem own_payW {vm0 : Vm} {y : MethodName} {maxL : Nat} {ret : Option FieldType} {rm : Room} {len W : Nat} {as' : Array Value} {ws' : List Addr} {Q : Option Value → Heap → Prop} {bc : ByteArray} (hM : OMet l Z EL n0 y [Jvm.Cond.code y bc maxL ret] rm as' h ws' Q) (hZ : Z.Warmed39 vm0) (wc : (Cond.code y bc maxL ret).before a0 Z = true) (wz : (Cond.initialized y.cls).before a0 Z = true) (hf : rm.frames + 1 ≤ R.frames) (hl : W + (maxL + 11) + rm.locals ≤ R.locals) (hEL : EW Z a0 EL) (H : CHv Z EL vm0 h) (hS : ∀ x ∈ ws', x < h.size ∧ Safe Z EL vm0 h x) :
    BackS l R p e below (s.setVm vm0) args y len W (fun A a => a = as' ∧ A.U.heap = h ∧ A.cells + rm.cells ≤ R.cells ∧ A.slots + rm.slots ≤ R.slots)
      (fun A _ v B => ∃ L, (Fr n0 L ∧ Keep h B.U.heap ws' ∧ Q v B.U.heap) ∧ B.locs = A.locs ++ L ∧ B.cells = A.cells + rm.cells ∧ B.slots = A.slots + rm.slots ∧ CHr Z EL vm0 h B.U.vm B.U.heap) :=
  BackS.of_freeW (bytes := bc) (maxL := maxL) (ret := ret) (E := fun _ first o t L k n => k = rm.cells ∧ n = rm.slots ∧ (∃ v, o = .returned v ∧ (Fr n0 L ∧ Keep h t.heap ws' ∧ Q v t.heap)) ∧ CHr Z EL first.vm first.heap t.vm t.heap) hM hf hl
    (fun m meth c A a Y hp => have hU : Z.Warmed39 A.U.vm := wtrans (s := s.setVm vm0) hZ Y.warmed
      ⟨by show (Cond.and _ .tt).before a A.U = true; rw [Cond.before_and, mv hU wc]; rfl, mv hU wc, mv hU wz, hp.2.2.1, hp.2.2.2⟩)
    (fun m meth c A a g mk Y hp => ⟨hp.1, wtrans (s := s.setVm vm0) hZ Y.warmed, hp.2.1, (CHv.at Y hZ hEL H).1, fun x hx => (CHv.at Y hZ hEL H).safe (hS x hx).1 (hS x hx).2⟩) (fun _ _ _ _ _ _ _ _ _ => trivial)
    (fun _ _ _ _ ⟨v, L, h1, h2, h3, h4, _⟩ => ⟨L, _, _, h4, rfl, rfl, ⟨v, h1, h2⟩, h3⟩)
    (fun m meth c A a g mk v t L k n Y hp _ _ ⟨e1, e2, ⟨v', e3, e4⟩, e5⟩ => by
      cases e3; subst e1 e2
      refine ⟨L, e4, rfl, rfl, rfl, (CHv.at Y hZ hEL H).trans ?_⟩
      rw [← hp.2.1]; exact e5)
theorem own_stat (X : OSt Z EL a0 n0 h0 ws own bytes mx p l e R s m args below meth c sv T h k n) (pc' : Nat) {y : MethodName} {index maxL W : Nat} {ret : Option FieldType} {rm : Room} {as' : Array Value} {ws' : List Addr} {Q : Option Value → Heap → Prop} {bc : ByteArray} {argsL rest : List Value} (hd : decode bytes pc = .ok (.invokestatic index, 3)) (hM : OMet l Z EL n0 y [Jvm.Cond.code y bc maxL ret] rm as' h ws' Q) (w1 : (Cond.methodLink own index y).before a0 Z = true) (w2 : (Cond.static y).before a0 Z = true) (wz : (Cond.initialized y.cls).before a0 Z = true) (wc : (Cond.code y bc maxL ret).before a0 Z = true) (hy : y.cls ≠ "java/lang/invoke/MethodHandle" ∧ y.cls ≠ "java/lang/invoke/VarHandle")
    (hlen : ∀ sig, parseMethodDescriptor y.desc = some sig → argsL.length = sig.parameters.length) (hst : st = argsL.reverse ++ rest) (has : argsL.toArray = as') (hsz : Ls.size = mx) (hW : (rest.map fun v => v.category).sum = W) (hf : rm.frames + 1 ≤ R.frames) (hl : W + (maxL + 11) + rm.locals ≤ R.locals) (hc : k + rm.cells ≤ R.cells) (hs : n + rm.slots ≤ R.slots) (hsv : ∀ x ∈ ws', x ∈ sv) (hq : pc' = pc + 3)
    (K : ∀ (T' : State) (h' : Heap) (v : Option Value), OSt Z EL a0 n0 h0 ws own bytes mx p l e R s m args below meth c sv T' h' (k + rm.cells) (n + rm.slots) → Keep h h' ws' → Q v h' → OGo p.tables e below P T' (mkF m pc' Ls (v.toList ++ rest))) : OGo p.tables e below P T (mkF m pc Ls st) := by
  subst hq
  obtain ⟨hx, hby, hml, eT, hlk, vm0, locs, Y, I⟩ := X
  have I0 := I
  obtain ⟨b1, b2, b3, b4, b5, b6, b7, b8, b9, b10, b11⟩ := I0
  have hS : ∀ x ∈ ws', x < h.size ∧ Safe Z EL vm0 h x := fun x hx => ⟨(b11 x (hsv x hx)).2.1, (b11 x (hsv x hx)).2.2.2⟩
  have hZ : Z.Warmed39 (s.setVm vm0).vm := b5
  have hW' : 2 * (mkF m pc Ls st).monitorRoom + (rest.map fun v => v.category).sum ≤ W := by show 2 * 0 + _ ≤ _; rw [hW]; omega
  by_cases hnil : EL = []
  · obtain ⟨v, vm₁, ⟨U, L', k', n'⟩, -, Y', ⟨L, ⟨q1, q2, q3⟩, l1, l2, l3⟩, stp⟩ := Jvm.LawKit.callS Y hx (y := y) (show (s.setVm vm0).vm.findClass own = _ from b6) (mvT hZ w1) (mvT hZ w2) (mvT hZ wz) (mvT hZ wc) hy (own_payN hnil hM b5 wc wz hf hl b7 b8.1 hS) (g := mkF m pc Ls st) rfl (by rw [hml]; exact hsz) (argsL := argsL) (rest := rest) hlen hst hW' (hb hby hd) (fun _ _ => ⟨has, eT, hc, hs⟩)
    dsimp only [Pt.U, Pt.locs, Pt.cells, Pt.slots] at Y' l1 l2 l3 q1 q2 q3 stp
    subst l1 l2 l3
    exact og stp (K U U.heap v ⟨hx, hby, hml, rfl, hlk, vm0, _, Y', I.keep q2 hsv q1⟩ q2 q3)
  · obtain ⟨v, vm₁, ⟨U, L', k', n'⟩, -, Y', S', g', ⟨L, ⟨q1, q2, q3⟩, l1, l2, l3, C⟩, stp⟩ := callSS Y hx (y := y) (show (s.setVm vm0).vm.findClass own = _ from b6) (mvT hZ w1) (mvT hZ w2) (mvT hZ wz) (mvT hZ wc) hy (own_payW hM b5 wc wz hf hl b7 b8.1 hS) (g := mkF m pc Ls st) rfl (by rw [hml]; exact hsz) (argsL := argsL) (rest := rest) hlen hst hW' (hb hby hd) (fun _ _ => ⟨has, eT, hc, hs⟩)
    dsimp only [Pt.U, Pt.locs, Pt.cells, Pt.slots] at Y' l1 l2 l3 q1 q2 q3 stp S' g' C
    subst l1 l2 l3
    exact og (fun _ q => stp.trans q) (K U U.heap v ⟨hx, hby, hml, rfl, hlk, U.vm, _, Y', I.call q2 hsv q1 C S' (fun q => absurd q hnil)⟩ q2 q3)
theorem own_spec (X : OSt Z EL a0 n0 h0 ws own bytes mx p l e R s m args below meth c sv T h k n) (pc' : Nat) {y : MethodName} {index maxL W : Nat} {rm : Room} {as' : Array Value} {ws' : List Addr} {Q : Option Value → Heap → Prop} {bc : ByteArray} {a : Addr} {argsL rest : List Value} (hd : decode bytes pc = .ok (.invokespecial index, 3)) (hy1 : y.name = "<init>") (hM : OMet l Z EL n0 y [Jvm.Cond.code y bc maxL none] rm as' h ws' Q) (w1 : (Cond.methodLink own index y).before a0 Z = true) (w2 : (Cond.instanceMethod y).before a0 Z = true) (wz : (Cond.initialized y.cls).before a0 Z = true) (wc : (Cond.code y bc maxL none).before a0 Z = true) (hy : y.cls ≠ "java/lang/invoke/MethodHandle" ∧ y.cls ≠ "java/lang/invoke/VarHandle")
    (hlen : ∀ sig, parseMethodDescriptor y.desc = some sig → argsL.length = sig.parameters.length) (hst : st = argsL.reverse ++ .ref a :: rest) (has : (.ref a :: argsL).toArray = as') (hsz : Ls.size = mx) (hW : (rest.map fun v => v.category).sum = W) (hf : rm.frames + 1 ≤ R.frames) (hl : W + (maxL + 11) + rm.locals ≤ R.locals) (hc : k + rm.cells ≤ R.cells) (hs : n + rm.slots ≤ R.slots) (hsv : ∀ x ∈ ws', x ∈ sv) (hq : pc' = pc + 3)
    (K : ∀ (T' : State) (h' : Heap) (v : Option Value), OSt Z EL a0 n0 h0 ws own bytes mx p l e R s m args below meth c sv T' h' (k + rm.cells) (n + rm.slots) → Keep h h' ws' → Q v h' → OGo p.tables e below P T' (mkF m pc' Ls (v.toList ++ rest))) : OGo p.tables e below P T (mkF m pc Ls st) := by
  subst hq
  obtain ⟨hx, hby, hml, eT, hlk, vm0, locs, Y, I⟩ := X
  have I0 := I
  obtain ⟨b1, b2, b3, b4, b5, b6, b7, b8, b9, b10, b11⟩ := I0
  have hS : ∀ x ∈ ws', x < h.size ∧ Safe Z EL vm0 h x := fun x hx => ⟨(b11 x (hsv x hx)).2.1, (b11 x (hsv x hx)).2.2.2⟩
  have hZ : Z.Warmed39 (s.setVm vm0).vm := b5
  have hW' : 2 * (mkF m pc Ls st).monitorRoom + (rest.map fun v => v.category).sum ≤ W := by show 2 * 0 + _ ≤ _; rw [hW]; omega
  by_cases hnil : EL = []
  · obtain ⟨v, vm₁, ⟨U, L', k', n'⟩, -, Y', ⟨L, ⟨q1, q2, q3⟩, l1, l2, l3⟩, stp⟩ := Y.specialBack hx (y := y) hy1 (show (s.setVm vm0).vm.findClass own = _ from b6) (mvT hZ w1) (mvT hZ w2) (mvT hZ wc) hy (own_payN hnil hM b5 wc wz hf hl b7 b8.1 hS) (g := mkF m pc Ls st) rfl (by rw [hml]; exact hsz) (Steps.refl _) (a := a) (argsL := argsL) (rest := rest) hlen hst hW' (hb hby hd) (fun _ _ => ⟨has, eT, hc, hs⟩)
    dsimp only [Pt.U, Pt.locs, Pt.cells, Pt.slots] at Y' l1 l2 l3 q1 q2 q3 stp
    subst l1 l2 l3
    exact og (fun _ q => stp.trans q) (K U U.heap v ⟨hx, hby, hml, rfl, hlk, vm0, _, Y', I.keep q2 hsv q1⟩ q2 q3)
  · obtain ⟨v, vm₁, ⟨U, L', k', n'⟩, -, Y', S', g', ⟨L, ⟨q1, q2, q3⟩, l1, l2, l3, C⟩, stp⟩ := Y.specialBackS hx (y := y) hy1 (show (s.setVm vm0).vm.findClass own = _ from b6) (mvT hZ w1) (mvT hZ w2) (mvT hZ wc) hy (own_payW hM b5 wc wz hf hl b7 b8.1 hS) (g := mkF m pc Ls st) rfl (by rw [hml]; exact hsz) (Steps.refl _) (a := a) (argsL := argsL) (rest := rest) hlen hst hW' (hb hby hd) (fun _ _ => ⟨has, eT, hc, hs⟩)
    dsimp only [Pt.U, Pt.locs, Pt.cells, Pt.slots] at Y' l1 l2 l3 q1 q2 q3 stp S' g' C
    subst l1 l2 l3
    exact og (fun _ q => stp.trans q) (K U U.heap v ⟨hx, hby, hml, rfl, hlk, U.vm, _, Y', I.call q2 hsv q1 C S' (fun q => absurd q hnil)⟩ q2 q3)
theorem own_virt (X : OSt Z EL a0 n0 h0 ws own bytes mx p l e R s m args below meth c sv T h k n) (pc' : Nat) {y z : MethodName} {C : String} {index maxL W : Nat} {ret : Option FieldType} {rm : Room} {as' : Array Value} {ws' : List Addr} {Q : Option Value → Heap → Prop} {bc : ByteArray} {a : Addr} {argsL rest : List Value} (hd : decode bytes pc = .ok (.invokevirtual index, 3)) (E : Exa Z h a C) (hnf : ∀ vm0, Z.Warmed39 (s.setVm vm0).vm → NotFace (s.setVm vm0) y) (hM : OMet l Z EL n0 z [Jvm.Cond.code z bc maxL ret] rm as' h ws' Q) (w1 : (Cond.methodLink own index y).before a0 Z = true) (w2 : (Cond.declares y).before a0 Z = true) (w3 : (Cond.selects C y z).before a0 Z = true) (w4 : (Cond.instanceMethod z).before a0 Z = true) (wz : (Cond.initialized z.cls).before a0 Z = true) (wc : (Cond.code z bc maxL ret).before a0 Z = true) (hy : y.cls ≠ "java/lang/invoke/MethodHandle" ∧ y.cls ≠ "java/lang/invoke/VarHandle")
    (hlen : ∀ sig, parseMethodDescriptor y.desc = some sig → argsL.length = sig.parameters.length) (hst : st = argsL.reverse ++ .ref a :: rest) (has : (.ref a :: argsL).toArray = as') (hsz : Ls.size = mx) (hW : (rest.map fun v => v.category).sum = W) (hf : rm.frames + 1 ≤ R.frames) (hl : W + (maxL + 11) + rm.locals ≤ R.locals) (hc : k + rm.cells ≤ R.cells) (hs : n + rm.slots ≤ R.slots) (hsv : ∀ x ∈ ws', x ∈ sv) (hq : pc' = pc + 3)
    (K : ∀ (T' : State) (h' : Heap) (v : Option Value), OSt Z EL a0 n0 h0 ws own bytes mx p l e R s m args below meth c sv T' h' (k + rm.cells) (n + rm.slots) → Keep h h' ws' → Q v h' → OGo p.tables e below P T' (mkF m pc' Ls (v.toList ++ rest))) : OGo p.tables e below P T (mkF m pc Ls st) := by
  subst hq
  obtain ⟨hx, hby, hml, eT, hlk, vm0, locs, Y, I⟩ := X
  have I0 := I
  obtain ⟨b1, b2, b3, b4, b5, b6, b7, b8, b9, b10, b11⟩ := I0
  have hS : ∀ x ∈ ws', x < h.size ∧ Safe Z EL vm0 h x := fun x hx => ⟨(b11 x (hsv x hx)).2.1, (b11 x (hsv x hx)).2.2.2⟩
  have hZ : Z.Warmed39 (s.setVm vm0).vm := b5
  have hW' : 2 * (mkF m pc Ls st).monitorRoom + (rest.map fun v => v.category).sum ≤ W := by show 2 * 0 + _ ≤ _; rw [hW]; omega
  obtain ⟨cq, kq, qa, qb, qc⟩ := isOf (s := s.setVm vm0) hZ eT E
  by_cases hnil : EL = []
  · obtain ⟨v, vm₁, ⟨U, L', k', n'⟩, -, Y', ⟨L, ⟨q1, q2, q3⟩, l1, l2, l3⟩, stp⟩ := Y.virtualBack hx (y := y) (z := z) (show (s.setVm vm0).vm.findClass own = _ from b6) (mvT hZ w1) (mvT hZ w2) (hnf vm0 hZ) (mvT hZ w3) (mvT hZ w4) hy (own_payN hnil hM b5 wc wz hf hl b7 b8.1 hS) qa qc (g := mkF m pc Ls st) rfl (by rw [hml]; exact hsz) (Steps.refl _) (argsL := argsL) (rest := rest) hlen hst hW' (hb hby hd) (fun _ _ => ⟨has, eT, hc, hs⟩)
    dsimp only [Pt.U, Pt.locs, Pt.cells, Pt.slots] at Y' l1 l2 l3 q1 q2 q3 stp
    subst l1 l2 l3
    exact og (fun _ q => stp.trans q) (K U U.heap v ⟨hx, hby, hml, rfl, hlk, vm0, _, Y', I.keep q2 hsv q1⟩ q2 q3)
  · obtain ⟨v, vm₁, ⟨U, L', k', n'⟩, -, Y', S', g', ⟨L, ⟨q1, q2, q3⟩, l1, l2, l3, C⟩, stp⟩ := Y.virtualBackS hx (y := y) (z := z) (show (s.setVm vm0).vm.findClass own = _ from b6) (mvT hZ w1) (mvT hZ w2) (hnf vm0 hZ) (mvT hZ w3) (mvT hZ w4) hy (own_payW hM b5 wc wz hf hl b7 b8.1 hS) qa qc (g := mkF m pc Ls st) rfl (by rw [hml]; exact hsz) (Steps.refl _) (argsL := argsL) (rest := rest) hlen hst hW' (hb hby hd) (fun _ _ => ⟨has, eT, hc, hs⟩)
    dsimp only [Pt.U, Pt.locs, Pt.cells, Pt.slots] at Y' l1 l2 l3 q1 q2 q3 stp S' g' C
    subst l1 l2 l3
    exact og (fun _ q => stp.trans q) (K U U.heap v ⟨hx, hby, hml, rfl, hlk, U.vm, _, Y', I.call q2 hsv q1 C S' (fun q => absurd q hnil)⟩ q2 q3)
theorem own_priv (X : OSt Z EL a0 n0 h0 ws own bytes mx p l e R s m args below meth c sv T h k n) (pc' : Nat) {y : MethodName} {C : String} {index maxL W : Nat} {ret : Option FieldType} {rm : Room} {as' : Array Value} {ws' : List Addr} {Q : Option Value → Heap → Prop} {bc : ByteArray} {a : Addr} {argsL rest : List Value} (hd : decode bytes pc = .ok (.invokevirtual index, 3)) (E : Exa Z h a C) (hM : OMet l Z EL n0 y [Jvm.Cond.code y bc maxL ret] rm as' h ws' Q) (w1 : (Cond.methodLink own index y).before a0 Z = true) (w2 : (Cond.instanceMethod y).before a0 Z = true) (w3 : (Cond.selects y.cls y y).before a0 Z = true) (w4 : (Cond.privateMethod y).before a0 Z = true) (wz : (Cond.initialized y.cls).before a0 Z = true) (wc : (Cond.code y bc maxL ret).before a0 Z = true) (hy : y.cls ≠ "java/lang/invoke/MethodHandle" ∧ y.cls ≠ "java/lang/invoke/VarHandle")
    (hlen : ∀ sig, parseMethodDescriptor y.desc = some sig → argsL.length = sig.parameters.length) (hst : st = argsL.reverse ++ .ref a :: rest) (has : (.ref a :: argsL).toArray = as') (hsz : Ls.size = mx) (hW : (rest.map fun v => v.category).sum = W) (hf : rm.frames + 1 ≤ R.frames) (hl : W + (maxL + 11) + rm.locals ≤ R.locals) (hc : k + rm.cells ≤ R.cells) (hs : n + rm.slots ≤ R.slots) (hsv : ∀ x ∈ ws', x ∈ sv) (hq : pc' = pc + 3)
    (K : ∀ (T' : State) (h' : Heap) (v : Option Value), OSt Z EL a0 n0 h0 ws own bytes mx p l e R s m args below meth c sv T' h' (k + rm.cells) (n + rm.slots) → Keep h h' ws' → Q v h' → OGo p.tables e below P T' (mkF m pc' Ls (v.toList ++ rest))) : OGo p.tables e below P T (mkF m pc Ls st) := by
  subst hq
  obtain ⟨hx, hby, hml, eT, hlk, vm0, locs, Y, I⟩ := X
  have I0 := I
  obtain ⟨b1, b2, b3, b4, b5, b6, b7, b8, b9, b10, b11⟩ := I0
  have hS : ∀ x ∈ ws', x < h.size ∧ Safe Z EL vm0 h x := fun x hx => ⟨(b11 x (hsv x hx)).2.1, (b11 x (hsv x hx)).2.2.2⟩
  have hZ : Z.Warmed39 (s.setVm vm0).vm := b5
  have hW' : 2 * (mkF m pc Ls st).monitorRoom + (rest.map fun v => v.category).sum ≤ W := by show 2 * 0 + _ ≤ _; rw [hW]; omega
  obtain ⟨cq, q0, q0'⟩ := E.cell
  by_cases hnil : EL = []
  · obtain ⟨v, vm₁, ⟨U, L', k', n'⟩, -, Y', ⟨L, ⟨q1, q2, q3⟩, l1, l2, l3⟩, stp⟩ := Y.privateBack hx (y := y) (show (s.setVm vm0).vm.findClass own = _ from b6) (mvT hZ w1) (mvT hZ w2) (mvT hZ w3) (Cond.privateMethod_at (mvP hZ w4 (args := #[]))) (mvT hZ wc) hy (own_payN hnil hM b5 wc wz hf hl b7 b8.1 hS) (g := mkF m pc Ls st) rfl (by rw [hml]; exact hsz) (Steps.refl _) (a := a) (by rw [eT]; exact q0) q0' (argsL := argsL) (rest := rest) hlen hst hW' (hb hby hd) (fun _ _ => ⟨has, eT, hc, hs⟩)
    dsimp only [Pt.U, Pt.locs, Pt.cells, Pt.slots] at Y' l1 l2 l3 q1 q2 q3 stp
    subst l1 l2 l3
    exact og (fun _ q => stp.trans q) (K U U.heap v ⟨hx, hby, hml, rfl, hlk, vm0, _, Y', I.keep q2 hsv q1⟩ q2 q3)
  · obtain ⟨v, vm₁, ⟨U, L', k', n'⟩, -, Y', S', g', ⟨L, ⟨q1, q2, q3⟩, l1, l2, l3, C⟩, stp⟩ := Y.privateBackS hx (y := y) (show (s.setVm vm0).vm.findClass own = _ from b6) (mvT hZ w1) (mvT hZ w2) (mvT hZ w3) (Cond.privateMethod_at (mvP hZ w4 (args := #[]))) (mvT hZ wc) hy (own_payW hM b5 wc wz hf hl b7 b8.1 hS) (g := mkF m pc Ls st) rfl (by rw [hml]; exact hsz) (Steps.refl _) (a := a) (by rw [eT]; exact q0) q0' (argsL := argsL) (rest := rest) hlen hst hW' (hb hby hd) (fun _ _ => ⟨has, eT, hc, hs⟩)
    dsimp only [Pt.U, Pt.locs, Pt.cells, Pt.slots] at Y' l1 l2 l3 q1 q2 q3 stp S' g' C
    subst l1 l2 l3
    exact og (fun _ q => stp.trans q) (K U U.heap v ⟨hx, hby, hml, rfl, hlk, U.vm, _, Y', I.call q2 hsv q1 C S' (fun q => absurd q hnil)⟩ q2 q3)
theorem own_virtB (X : OSt Z EL a0 n0 h0 ws own bytes mx p l e R s m args below meth c sv T h k n) (pc' : Nat) {y z : MethodName} {C : String} {index W rc rs : Nat} {as' : Array Value} {ws' : List Addr} {Q : Option Value → Heap → List Loc → Prop} {a : Addr} {argsL rest : List Value} (hd : decode bytes pc = .ok (.invokevirtual index, 3)) (E : Exa Z h a C) (hnf : ∀ vm0, Z.Warmed39 (s.setVm vm0).vm → NotFace (s.setVm vm0) y)
    (hK : ∀ vm0, Z.Warmed39 (s.setVm vm0).vm → Back l R p e below (s.setVm vm0) args z 3 W (fun A a => a = as' ∧ A.U.heap = h ∧ A.cells + rc ≤ R.cells ∧ A.slots + rs ≤ R.slots) (fun A _ v B => ∃ L, Q v B.U.heap L ∧ B.locs = A.locs ++ L ∧ B.cells = A.cells + rc ∧ B.slots = A.slots + rs)) (hQ : ∀ v h' L, Q v h' L → Fr n0 L ∧ Keep h h' ws')
    (w1 : (Cond.methodLink own index y).before a0 Z = true) (w2 : (Cond.declares y).before a0 Z = true) (w3 : (Cond.selects C y z).before a0 Z = true) (w4 : (Cond.instanceMethod z).before a0 Z = true) (hy : y.cls ≠ "java/lang/invoke/MethodHandle" ∧ y.cls ≠ "java/lang/invoke/VarHandle")
    (hlen : ∀ sig, parseMethodDescriptor y.desc = some sig → argsL.length = sig.parameters.length) (hst : st = argsL.reverse ++ .ref a :: rest) (has : (.ref a :: argsL).toArray = as') (hsz : Ls.size = mx) (hW : (rest.map fun v => v.category).sum = W) (hc : k + rc ≤ R.cells) (hs : n + rs ≤ R.slots) (hsv : ∀ x ∈ ws', x ∈ sv) (hq : pc' = pc + 3)
    (K : ∀ (T' : State) (h' : Heap) (v : Option Value) (L : List Loc), OSt Z EL a0 n0 h0 ws own bytes mx p l e R s m args below meth c sv T' h' (k + rc) (n + rs) → Keep h h' ws' → Q v h' L → OGo p.tables e below P T' (mkF m pc' Ls (v.toList ++ rest))) : OGo p.tables e below P T (mkF m pc Ls st) := by
  subst hq
  obtain ⟨hx, hby, hml, eT, hlk, vm0, locs, Y, I⟩ := X
  have hZ : Z.Warmed39 (s.setVm vm0).vm := I.2.2.2.2.1
  have hW' : 2 * (mkF m pc Ls st).monitorRoom + (rest.map fun v => v.category).sum ≤ W := by show 2 * 0 + _ ≤ _; rw [hW]; omega
  obtain ⟨cq, kq, qa, qb, qc⟩ := isOf (s := s.setVm vm0) hZ eT E
  obtain ⟨v, vm₁, ⟨U, L', k', n'⟩, -, Y', ⟨L, q, l1, l2, l3⟩, stp⟩ := Y.virtualBack hx (y := y) (z := z) (show (s.setVm vm0).vm.findClass own = _ from I.2.2.2.2.2.1) (mvT hZ w1) (mvT hZ w2) (hnf vm0 hZ) (mvT hZ w3) (mvT hZ w4) hy (hK vm0 hZ) qa qc (g := mkF m pc Ls st) rfl (by rw [hml]; exact hsz) (Steps.refl _) (argsL := argsL) (rest := rest) hlen hst hW' (hb hby hd) (fun _ _ => ⟨has, eT, hc, hs⟩)
  dsimp only [Pt.U, Pt.locs, Pt.cells, Pt.slots] at Y' l1 l2 l3 q stp
  subst l1 l2 l3
  exact og (fun _ q => stp.trans q) (K U U.heap v L ⟨hx, hby, hml, rfl, hlk, vm0, _, Y', I.keep (hQ _ _ _ q).2 hsv (hQ _ _ _ q).1⟩ (hQ _ _ _ q).2 q)
theorem own_svb (X : OSt Z EL a0 n0 h0 ws own bytes mx p l e R s m args below meth c sv T h k n) {a : Addr} (ha : a ∈ sv) : n0 ≤ a ∧ a < h.size := by
  obtain ⟨-, -, -, -, -, _, _, -, -, -, -, -, -, -, -, -, -, -, q⟩ := X
  exact ⟨(q a ha).1, (q a ha).2.1⟩
theorem own_fitR {t : FieldType} {w : Value} (ht : t.isReference = true) (hw : w.isRef = true) : fits t w = true := by
  rcases ref_cases hw with rfl | ⟨a, rfl⟩ <;> cases t <;> first | rfl | cases ht
theorem own_sto {a y : Addr} {kb : ClassId} {ty : FieldType} {z : Int32} {vs : List Value} {dv : Value} {C : String} (A : Arv Z h a kb ty z vs dv) (O : Ovr Z kb C) (i : Ins Z h y C true) : Sto Z h a (.ref y) := by
  obtain ⟨cl, Ar, q, -⟩ := A
  exact Sto.ofV Ar q O i
theorem own_n0 (X : OSt Z EL a0 n0 h0 ws own bytes mx p l e R s m args below meth c sv T h k n) : n0 ≤ h.size := X.old.1 ▸ X.old.2.1
theorem own_svA (X : OSt Z EL a0 n0 h0 ws own bytes mx p l e R s m args below meth c sv T h k n) {r : Addr} {kb : ClassId} {ty : FieldType} {z : Int32} {vs : List Value} {dv : Value} (A : Arv Z h r kb ty z vs dv) (h1 : ty ≠ .byte) (hn : n0 ≤ r) (hg : h0.size ≤ r) : OSt Z EL a0 n0 h0 ws own bytes mx p l e R s m args below meth c (r :: sv) T h k n := by
  obtain ⟨a1, a2, a3, a4, a5, vm0, locs, Y, b1, b2, b3, b4, b5, b6, b7, b8, b9, b10, b11⟩ := X
  refine ⟨a1, a2, a3, a4, a5, vm0, locs, Y, b1, b2, b3, b4, b5, b6, b7, b8, b9, b10, fun x hx => ?_⟩
  rcases List.mem_cons.mp hx with rfl | hx
  · exact ⟨hn, A.lt, Or.inr hg, Safe.arv b5.alike A h1⟩
  · exact b11 x hx
def OFar (Z : State) (h : Heap) (B : Nat) (y : Addr) : Prop := B ≤ y ∨ ∃ (C : String) (kk : Nat) (a0 : Array Value), Exa Z h y C ∧ C ≠ "java/lang/String" ∧ (Jvm.Cond.instantiable C kk).before a0 Z = true
def OStr (Z : State) (h : Heap) (x : Addr) (cs : List Int32) (B : Nat) : Prop := ∃ (t : Addr) (kb : ClassId) (cd N : Int32) (vs : List Value), Exa Z h x "java/lang/String" ∧ Fld Z h x "java/lang/String" "coder" "B" (.int cd) ∧ Fld Z h x "java/lang/String" "value" "[B" (.ref t) ∧ Arv Z h t kb .byte N vs (.int 0) ∧ StrChars.Road.CodA cs cd N vs ∧ (∀ c ∈ cs, ¬ c < 0 ∧ ¬ (65535 : Int32) < c) ∧ cs.length ≤ 4000 ∧ x < B ∧ t < B
theorem OStr.exa {Z : State} {h : Heap} {x : Addr} {cs : List Int32} {B : Nat} (F : OStr Z h x cs B) : Exa Z h x "java/lang/String" := by obtain ⟨t, kb, cd, N, vs, r, -⟩ := F; exact r
theorem OStr.lt {Z : State} {h : Heap} {x : Addr} {cs : List Int32} {B : Nat} (F : OStr Z h x cs B) : x < h.size := F.exa.lt
theorem OStr.len {Z : State} {h : Heap} {x : Addr} {cs : List Int32} {B : Nat} (F : OStr Z h x cs B) : cs.length ≤ 4000 := by obtain ⟨t, kb, cd, N, vs, -, -, -, -, -, -, r, -, -⟩ := F; exact r
theorem OStr.keep {Z : State} {h h' : Heap} {x : Addr} {cs : List Int32} {B : Nat} {ws : List Addr} (F : OStr Z h x cs B) (K : Keep h h' ws) (q : ∀ y ∈ ws, OFar Z h B y) : OStr Z h' x cs B := by
  obtain ⟨t, kb, cd, N, vs, r1, r2, r3, r4, r5, r6, r7, r8, r9⟩ := F
  have nx : x ∉ ws := fun hx => by
    rcases q x hx with u | ⟨C, kk, a0, E, hC, -⟩
    · exact absurd r8 (Nat.not_lt.mpr u)
    · exact ne_exa r1 E (Ne.symm hC) rfl
  have nt : t ∉ ws := fun hx => by
    rcases q t hx with u | ⟨C, kk, a0, E, hC, wi⟩
    · exact absurd r9 (Nat.not_lt.mpr u)
    · obtain ⟨c, A, -⟩ := r4
      exact ne_arr E wi A rfl
  exact ⟨t, kb, cd, N, vs, r1.keep K, r2.keep K nx, r3.keep K nx, r4.keep K nt, r5, r6, r7, r8, r9⟩
theorem own_mkStr {Z : State} {h : Heap} {x t : Addr} {kb : ClassId} {cs bs : List Int32} {N : Int32} {n : Nat} (E : Exa Z h x "java/lang/String") (C : Fld Z h x "java/lang/String" "coder" "B" (.int 0)) (V : Fld Z h x "java/lang/String" "value" "[B" (.ref t)) (A : Arv Z h t kb .byte N (bs.map Value.int) (.int 0)) (hb : bs = cs.map (fun c => c.toInt8.toInt32)) (hp : ∀ c ∈ cs, ¬ c < 0 ∧ ¬ (255 : Int32) < c) (hn : cs.length = n) (hN : N = Int32.ofNat n) (hl : n ≤ 4000) : OStr Z h x cs h.size := by
  subst hn hN hb
  exact ⟨t, kb, 0, _, _, E, C, V, A, StrChars.Road.codOf rfl (fun c hc => (hp c hc).2), fun c hc => ⟨(hp c hc).1, own_up8 (hp c hc).2⟩, hl, E.lt, A.lt⟩
def own_eqb (cs ds : List Int32) : Int32 := if cs = ds then 1 else 0
theorem own_eqb0 {cs ds : List Int32} : own_eqb cs ds = 0 ↔ ¬ cs = ds := by unfold own_eqb; split <;> simp_all
theorem own_strEq  (X : OSt Z EL a0 n0 h0 ws own bytes mx p l e R s m args below meth c sv T h k n) (pc' : Nat) {index W : Nat} {x y : Addr} {cs ds : List Int32} {B1 B2 : Nat} {z0 : Int32} {rest : List Value} (hd : decode bytes pc = .ok (.invokevirtual index, 3)) (S1 : OStr Z h x cs B1) (S2 : OStr Z h y ds B2) (hwq : ∀ d ∈ StrChars.Road.wordsEq, d.before a0 Z = true) (wi : (Jvm.Cond.instantiable "java/lang/String" 4).before a0 Z = true) (hcs : Sta Z Z.heap "java/lang/String" "COMPACT_STRINGS" "Z" (.int z0)) (hz : ¬ z0 = 0)
    (w1 : (Jvm.Cond.methodLink own index (⟨"java/lang/String", "equals", "(Ljava/lang/Object;)Z"⟩ : MethodName)).before a0 Z = true) (w2 : (Jvm.Cond.declares (⟨"java/lang/String", "equals", "(Ljava/lang/Object;)Z"⟩ : MethodName)).before a0 Z = true) (w3 : (Jvm.Cond.selects "java/lang/String" (⟨"java/lang/String", "equals", "(Ljava/lang/Object;)Z"⟩ : MethodName) (⟨"java/lang/String", "equals", "(Ljava/lang/Object;)Z"⟩ : MethodName)).before a0 Z = true) (w4 : (Jvm.Cond.instanceMethod (⟨"java/lang/String", "equals", "(Ljava/lang/Object;)Z"⟩ : MethodName)).before a0 Z = true)
    (hsz : Ls.size = mx) (hW : (rest.map fun v => v.category).sum = W) (hfr : 2 ≤ R.frames) (hlo : W + 28 ≤ R.locals) (hc : k ≤ R.cells) (hs : n ≤ R.slots) (hq : pc' = pc + 3)
    (K : ∀ (T' : State), OSt Z EL a0 n0 h0 ws own bytes mx p l e R s m args below meth c sv T' h k n → OGo p.tables e below P T' (mkF m pc' Ls (.int (own_eqb cs ds) :: rest))) : OGo p.tables e below P T (mkF m pc Ls (.ref y :: .ref x :: rest)) := by
  obtain ⟨t1, k1, cd1, N1, vs1, E1, C1, V1, A1, c1, b1, l1, -, -⟩ := S1
  obtain ⟨t2, k2, cd2, N2, vs2, E2, C2, V2, A2, c2, b2, l2, -, -⟩ := S2
  have O1 := X.old
  have hpd : parseMethodDescriptor "(Ljava/lang/Object;)Z" = some ⟨[.object "java/lang/Object"], some .boolean⟩ := by decide +kernel
  refine own_virtB X pc' (a := x) (argsL := [.ref y]) (rest := rest) (Q := fun v h' L => (((v = some (.int 1) ∧ cs = ds) ∨ (v = some (.int 0) ∧ ¬ cs = ds)) ∧ L = [] ∧ h' = h)) hd E1 (fun _ hZ => notFace_of_selects (args := #[]) (mvT hZ w3)) (fun vm0 hZ => StrChars.Road.eqW (W := W) hZ hwq (kI := 4) wi E1 V1 C1 A1 c1 b1 l1 E2 V2 C2 A2 c2 b2 l2 (hcs.ext O1.2) hz hfr hlo) (ws' := []) (fun v h' L q => ⟨by obtain ⟨-, rfl, -⟩ := q; exact Fr.nil _, by obtain ⟨-, -, rfl⟩ := q; exact Keep.refl _ _⟩) w1 w2 w3 w4 (by decide) (lenOf hpd rfl) rfl rfl hsz hW hc hs all0 hq ?_
  rintro T' h' v L X' K' ⟨q1, -, rfl⟩
  rcases q1 with ⟨rfl, q⟩ | ⟨rfl, q⟩
  · have e : own_eqb cs ds = 1 := if_pos q
    have := K T' X'
    rw [e] at this; exact this
  · have e : own_eqb cs ds = 0 := if_neg q
    have := K T' X'
    rw [e] at this; exact this
theorem own_neA {a b : Addr} {C : String} {kk : Nat} {kb : ClassId} {ty : FieldType} {z : Int32} {vs : List Value} {dv : Value} (E : Exa Z h a C) (wi : (Jvm.Cond.instantiable C kk).before a0 Z = true) (A : Arv Z h b kb ty z vs dv) : a ≠ b := by
  obtain ⟨c, A, -⟩ := A
  exact ne_arr E wi A
theorem own_nfz {s : State} {args : Array Value} {y y' z' : MethodName} {C : String} (w : (Cond.selects C y' z').before args s = true) (he : z'.cls = y.cls) : NotFace s y := fun r0 h0 => by
  obtain ⟨c2, r2, m2, q1, q2, q3, q4, kP, hkP, hkPi⟩ := Cond.selects_spec w
  have e1 := findClass_of_methodNamed h0
  have e2 := findClass_of_methodNamed q3
  rw [he] at e2
  have e3 : r0.cls = m2.cls := Option.some.inj (e1.symm.trans e2)
  exact ⟨kP, by rw [e3]; exact hkP, hkPi⟩
theorem own_selfsel2 {y y' z' : MethodName} {C : String} (w : (Cond.selects C y' z').before a0 Z = true) (he : z'.cls = y.cls) (w2 : (Cond.instanceMethod y).before a0 Z = true) (w4 : (Cond.privateMethod y).before a0 Z = true) (hy : y.cls ≠ "java/lang/invoke/MethodHandle" ∧ y.cls ≠ "java/lang/invoke/VarHandle") : (Cond.selects y.cls y y).before a0 Z = true := by
  obtain ⟨mk, methM, hnamed, -⟩ := Cond.instanceMethod_spec w2
  obtain ⟨kr, hk, hni⟩ := own_nfz w he mk hnamed
  exact selects_self_of_private (findClass_of_methodNamed hnamed) hk hni (Cond.privateMethod_at w4) w2 hy
theorem own_svN (X : OSt Z EL a0 n0 h0 ws own bytes mx p l e R s m args below meth c sv T h k n) (hEL : EL = []) {r : Addr} {C : String} (E : Exa Z h r C) (hn : n0 ≤ r) (hg : h0.size ≤ r) : OSt Z EL a0 n0 h0 ws own bytes mx p l e R s m args below meth c (r :: sv) T h k n := by
  obtain ⟨a1, a2, a3, a4, a5, vm0, locs, Y, b1, b2, b3, b4, b5, b6, b7, b8, b9, b10, b11⟩ := X
  refine ⟨a1, a2, a3, a4, a5, vm0, locs, Y, b1, b2, b3, b4, b5, b6, b7, b8, b9, b10, fun x hx => ?_⟩
  rcases List.mem_cons.mp hx with rfl | hx
  · exact ⟨hn, E.lt, Or.inr hg, fun B => by obtain ⟨p, hp, -⟩ := B; rw [hEL] at hp; cases hp⟩
  · exact b11 x hx
theorem og_lookHit (X : OSt Z EL a0 n0 h0 ws own bytes mx p l e R s m args below meth c sv T h k n) (pc' : Nat) {len : Nat} {d a off : Int} {pairs : Array (Int × Int)} {k0 : Int32} (hd : decode bytes pc = .ok (.lookupswitch d pairs, len)) (hs : (pairs.toList.zip (pairs.toList.drop 1)).all (fun (a, next) => a.1 < next.1) = true) (hf : pairs.find? (·.1 == k0.toInt) = some (a, off)) (h0 : 0 ≤ (pc : Int) + off) (hq : ((pc : Int) + off).toNat = pc') (K : OGo p.tables e below P T (mkF m pc' Ls st)) : OGo p.tables e below P T (mkF m pc Ls (.int k0 :: st)) := by
  subst hq
  obtain ⟨hx, hby, hml, eT, hlk, vm0, locs, Y, I⟩ := X
  exact og (fun t r => Y.lookupswitchHit hx (g := mkF m pc Ls (.int k0 :: st)) rfl rfl (hb hby hd) hs hf h0 t r) K
theorem og_lookMiss (X : OSt Z EL a0 n0 h0 ws own bytes mx p l e R s m args below meth c sv T h k n) (pc' : Nat) {len : Nat} {d : Int} {pairs : Array (Int × Int)} {k0 : Int32} (hd : decode bytes pc = .ok (.lookupswitch d pairs, len)) (hs : (pairs.toList.zip (pairs.toList.drop 1)).all (fun (a, next) => a.1 < next.1) = true) (hf : pairs.find? (·.1 == k0.toInt) = none) (h0 : 0 ≤ (pc : Int) + d) (hq : ((pc : Int) + d).toNat = pc') (K : OGo p.tables e below P T (mkF m pc' Ls st)) : OGo p.tables e below P T (mkF m pc Ls (.int k0 :: st)) := by
  subst hq
  obtain ⟨hx, hby, hml, eT, hlk, vm0, locs, Y, I⟩ := X
  exact og (fun t r => Y.lookupswitchMiss hx (g := mkF m pc Ls (.int k0 :: st)) rfl rfl (hb hby hd) hs hf h0 t r) K
theorem og_tabIn (X : OSt Z EL a0 n0 h0 ws own bytes mx p l e R s m args below meth c sv T h k n) (pc' : Nat) {len : Nat} {d low high off : Int} {offs : Array Int} {k0 : Int32} (hd : decode bytes pc = .ok (.tableswitch d low high offs, len)) (hin : ¬ (k0.toInt < low ∨ k0.toInt > high)) (hf : offs[(k0.toInt - low).toNat]? = some off) (h0 : 0 ≤ (pc : Int) + off) (hq : ((pc : Int) + off).toNat = pc') (K : OGo p.tables e below P T (mkF m pc' Ls st)) : OGo p.tables e below P T (mkF m pc Ls (.int k0 :: st)) := by
  subst hq
  obtain ⟨hx, hby, hml, eT, hlk, vm0, locs, Y, I⟩ := X
  exact og (fun t r => Y.tableswitchIn hx (g := mkF m pc Ls (.int k0 :: st)) rfl rfl (hb hby hd) hin hf h0 t r) K
theorem own_arrE (X : OSt Z EL a0 n0 h0 ws own bytes mx p l e R s m args below meth c sv T h k n) (pc' : Nat) {aty : ArrayType} {z : Int32} {ad : String} (hd : decode bytes pc = .ok (.newarray aty, 2)) (w : (Cond.arrayClass (newarray.typeOf aty)).before a0 Z = true) (hz : ¬ z < 0) {cap : Nat} (hcap : z.toNatClampNeg = cap) (hbig : cap * 8 ≤ 536870912) (hc : k + 1 ≤ R.cells) (hl : n + cap ≤ R.slots) (had : "[" ++ (newarray.typeOf aty).toString = ad) (hq : pc' = pc + 2)
    (K : ∀ (T' : State) (h' : Heap) (b : Addr) (kb : ClassId), OSt Z EL a0 n0 h0 ws own bytes mx p l e R s m args below meth c (b :: sv) T' h' (k + 1) (n + cap) → Keep h h' [] → h.size ≤ b → b < h'.size → Arv Z h' b kb (newarray.typeOf aty) z (List.replicate cap (defaultValue (newarray.typeOf aty))) (defaultValue (newarray.typeOf aty)) → Exa Z h' b ad → OGo p.tables e below P T' (mkF m pc' Ls (.ref b :: st))) : OGo p.tables e below P T (mkF m pc Ls (.int z :: st)) := by
  subst hq
  obtain ⟨hx, hby, hml, eT, hlk, vm0, locs, Y, I⟩ := X
  obtain ⟨T', h', kb, Y', e', E, A, Ex, stp⟩ := newPE Y hx (show Z.Warmed39 (s.setVm vm0).vm from I.2.2.2.2.1) w eT (g := mkF m pc Ls (.int z :: st)) rfl (hb hby hd) rfl hz (cap := cap) (Nat.le_of_eq hcap) hbig hc hl had
  have V := (Arv.new A hz).pad (pad_rep [] (defaultValue (newarray.typeOf aty)) cap)
  rw [List.nil_append] at V
  exact og stp (K T' h' h.size kb ⟨hx, hby, hml, e', hlk, vm0, locs, Y', I.new E (Nat.le_refl _) A.lt⟩ ((Keep.refl _ _).ext E) (Nat.le_refl _) A.lt V Ex)
end OwnKit
theorem ow {Z : State} {a0 : Array Value} (hw : ∀ d ∈ tables_1, d.before a0 Z = true) (i : Nat) {d : Jvm.Cond} (h : tables_1[i]? = some d) : d.before a0 Z = true := hw d (List.mem_of_getElem? h)
theorem om {α : Type} {L : List α} {a : α} (i : Nat) (h : L[i]? = some a) : a ∈ L := List.mem_of_getElem? h
def own_EL : List (String × Nat) := []
def OWorld (Z : State) (a0 : Array Value) : Prop := EW Z a0 own_EL ∧ (Sta Z Z.heap "java/lang/String" "COMPACT_STRINGS" "Z" (.int (own_sti Z "java/lang/String" "COMPACT_STRINGS" "Z")) ∧ ¬ (own_sti Z "java/lang/String" "COMPACT_STRINGS" "Z") = 0)
def own_good (cs : List Int32) : Prop := (∀ c ∈ cs, ¬ c < 0 ∧ ¬ (255 : Int32) < c) ∧ ((∃ x, cs = [x]) ∨ (∃ x y, cs = [x, y]))
theorem own_good1 (x : Int32) : own_good [x &&& 255] := ⟨own_lS (own_lat8 _) own_l0, Or.inl ⟨_, rfl⟩⟩
theorem own_good2 (x y : Int32) : own_good [x &&& 255, y &&& 255] := ⟨own_lS (own_lat8 _) (own_lS (own_lat8 _) own_l0), Or.inr ⟨_, _, rfl⟩⟩
theorem own_goodL {cs : List Int32} (h : own_good cs) : cs.length ≤ 4000 := by
  rcases h.2 with ⟨x, rfl⟩ | ⟨x, y, rfl⟩
  · exact Nat.le_of_ble_eq_true rfl
  · exact Nat.le_of_ble_eq_true rfl
theorem own_rawS {Z : State} {h : Heap} {x t : Addr} {kb : ClassId} {cs : List Int32} (E : Exa Z h x "java/lang/String") (C : Fld Z h x "java/lang/String" "coder" "B" (.int 0)) (V : Fld Z h x "java/lang/String" "value" "[B" (.ref t)) (A : Arv Z h t kb .byte (Int32.ofNat (cs).length) ((cs).map fun c => Value.int (StrChars.lo8 c)) (.int 0)) (g : own_good cs) : OStr Z h x cs h.size :=
  own_mkStr (bs := cs.map (fun c => c.toInt8.toInt32)) E C V (by rw [List.map_map]; exact A) rfl g.1 rfl rfl (own_goodL g)
def own_hc : List Int32 → Int32
  | [x] => StrChars.lo8 x &&& 255
  | [x, y] => 31 * (0 + (StrChars.lo8 x &&& 255)) + (StrChars.lo8 y &&& 255)
  | _ => 0
def own_hz (cs : List Int32) : Int32 := if own_hc cs = 0 then 1 else 0
def own_hh (cs : List Int32) : Int32 := own_hc cs ^^^ XT.ushr (own_hc cs) 16
theorem own_hzP {cs : List Int32} (h : own_hc cs = 0) : own_hz cs = 1 := if_pos h
theorem own_hzN {cs : List Int32} (h : ¬ own_hc cs = 0) : own_hz cs = 0 := if_neg h
theorem own_hzQ {cs : List Int32} (h : own_hc cs = 0) : ¬ own_hz cs = 0 := by rw [own_hzP h]; decide
def own_ji (cs : List Int32) : Nat := (own_hh cs &&& 15).toNatClampNeg
theorem own_and15 (x : Int32) : ¬ (x &&& 15) < 0 ∧ (x &&& 15) < 16 ∧ (x &&& 15).toNatClampNeg < 16 := by
  have t : ∀ k : Fin 16, ¬ (Int32.ofNat k.val) < 0 ∧ (Int32.ofNat k.val) < 16 ∧ (Int32.ofNat k.val).toNatClampNeg < 16 := by decide +kernel
  have h : (x &&& 15).toBitVec.toNat < 16 := by
    simp only [Int32.toBitVec_and, BitVec.toNat_and]
    exact Nat.lt_succ_of_le Nat.and_le_right
  have e : (x &&& 15) = Int32.ofNat (x &&& 15).toBitVec.toNat := by
    apply Int32.toBitVec_inj.mp
    show _ = BitVec.ofNat 32 _
    rw [BitVec.ofNat_toNat]; simp
  rw [e]
  exact t ⟨_, h⟩
theorem own_jx0 (cs : List Int32) : ¬ (own_hh cs &&& 15) < 0 := (own_and15 _).1
theorem own_jx1 (cs : List Int32) : (own_hh cs &&& 15) < 16 := (own_and15 _).2.1
def own_V0 : List Value := List.replicate 16 .null
def own_at (vs : List Value) (cs : List Int32) : Value := vs.getD (own_ji cs) .null
def own_bset (vs : List Value) (cs : List Int32) (b : Addr) : List Value := vs.set (own_ji cs) (.ref b)
def own_okv (vs : List Value) : Prop := vs.length = 16 ∧ ∀ cs, (own_at vs cs).isRef = true
theorem own_jil {vs : List Value} {cs : List Int32} (h : own_okv vs) : own_ji cs < vs.length := h.1 ▸ (own_and15 _).2.2
theorem own_at0 (cs : List Int32) : own_at own_V0 cs = .null := by
  have h : own_ji cs < 16 := (own_and15 _).2.2
  unfold own_at own_V0
  rw [List.getD_eq_getElem?_getD, List.getElem?_replicate, if_pos h]; rfl
theorem own_atH {vs : List Value} {cs ds : List Int32} {b : Addr} (hv : own_okv vs) (h : own_ji cs = own_ji ds) : own_at (own_bset vs ds b) cs = .ref b := by
  unfold own_at own_bset
  rw [h, List.getD_eq_getElem?_getD, List.getElem?_set_self (own_jil hv)]; rfl
theorem own_atM {vs : List Value} {cs ds : List Int32} {b : Addr} (h : ¬ own_ji cs = own_ji ds) : own_at (own_bset vs ds b) cs = own_at vs cs := by
  unfold own_at own_bset
  rw [List.getD_eq_getElem?_getD, List.getElem?_set_ne (fun q => h q.symm), ← List.getD_eq_getElem?_getD]
theorem own_ok0 : own_okv own_V0 := ⟨rfl, fun cs => by rw [own_at0]; rfl⟩
theorem own_okP {vs : List Value} (h : own_okv vs) (ds : List Int32) (b : Addr) : own_okv (own_bset vs ds b) := ⟨by unfold own_bset; rw [List.length_set]; exact h.1, fun cs => by
  by_cases q : own_ji cs = own_ji ds
  · rw [own_atH h q]; rfl
  · rw [own_atM q]; exact h.2 cs⟩
theorem own_eqbS (cs : List Int32) : ¬ own_eqb cs cs = 0 := fun q => own_eqb0.mp q rfl
theorem ef_rm3 (x : Int32) (m : MethodId) : entryFrame m #[(.int x)] 1 = mkF m 0 #[.val (.int x)] [] := by first | (simp [entryFrame, mkF, argsToLocals, Value.category, maxLocals]; done) | rfl
theorem pn_java_lang_StringLatin1_canEncode__C_Z : plainFor (⟨"java/lang/StringLatin1", "canEncode", "(C)Z"⟩ : MethodName) = true := by first | exact plainFor_of_name (by first | (simp [plainName, overriddenIn]; done) | decide +kernel) | decide +kernel
theorem d3_0 : decode jdk_43_method_3_code 0 = .ok (.iload_n 0, 1) := by decide +kernel
theorem d3_1 : decode jdk_43_method_3_code 1 = .ok (.sipush 255, 3) := by decide +kernel
theorem d3_4 : decode jdk_43_method_3_code 4 = .ok (.if_icmp .gt 7, 3) := by decide +kernel
theorem d3_7 : decode jdk_43_method_3_code 7 = .ok (.iconst 1, 1) := by decide +kernel
theorem d3_8 : decode jdk_43_method_3_code 8 = .ok (.goto 4, 3) := by decide +kernel
theorem d3_12 : decode jdk_43_method_3_code 12 = .ok (.ireturn, 1) := by decide +kernel
theorem ef_rm4 (x : Int32) (m : MethodId) : entryFrame m #[(.int x)] 1 = mkF m 0 #[.val (.int x)] [] := by first | (simp [entryFrame, mkF, argsToLocals, Value.category, maxLocals]; done) | rfl
theorem pn_java_lang_StringLatin1_toBytes__C__B : plainFor (⟨"java/lang/StringLatin1", "toBytes", "(C)[B"⟩ : MethodName) = true := by first | exact plainFor_of_name (by first | (simp [plainName, overriddenIn]; done) | decide +kernel) | decide +kernel
theorem d4_0 : decode jdk_43_method_46_code 0 = .ok (.iconst 1, 1) := by decide +kernel
theorem d4_1 : decode jdk_43_method_46_code 1 = .ok (.newarray .byte, 2) := by decide +kernel
theorem d4_3 : decode jdk_43_method_46_code 3 = .ok (.dup, 1) := by decide +kernel
theorem d4_4 : decode jdk_43_method_46_code 4 = .ok (.iconst 0, 1) := by decide +kernel
theorem d4_5 : decode jdk_43_method_46_code 5 = .ok (.iload_n 0, 1) := by decide +kernel
theorem d4_6 : decode jdk_43_method_46_code 6 = .ok (.i2b, 1) := by decide +kernel
theorem d4_7 : decode jdk_43_method_46_code 7 = .ok (.bastore, 1) := by decide +kernel
theorem d4_8 : decode jdk_43_method_46_code 8 = .ok (.areturn, 1) := by decide +kernel
theorem ef_rm5 (a : Addr) (b : Addr) (m : MethodId) : entryFrame m #[(.ref a), (.ref b), (.int 0)] 3 = mkF m 0 #[.val (.ref a), .val (.ref b), .val (.int 0)] [] := by first | (simp [entryFrame, mkF, argsToLocals, Value.category, maxLocals]; done) | rfl
theorem pn_java_lang_String__init____BB_V : plainFor (⟨"java/lang/String", "<init>", "([BB)V"⟩ : MethodName) = true := by first | exact plainFor_of_name (by first | (simp [plainName, overriddenIn]; done) | decide +kernel) | decide +kernel
theorem d5_0 : decode jdk_42_method_151_code 0 = .ok (.aload_n 0, 1) := by decide +kernel
theorem d5_1 : decode jdk_42_method_151_code 1 = .ok (.invokespecial 1, 3) := by decide +kernel
theorem d5_4 : decode jdk_42_method_151_code 4 = .ok (.aload_n 0, 1) := by decide +kernel
theorem d5_5 : decode jdk_42_method_151_code 5 = .ok (.aload_n 1, 1) := by decide +kernel
theorem d5_6 : decode jdk_42_method_151_code 6 = .ok (.putfield 9, 3) := by decide +kernel
theorem d5_9 : decode jdk_42_method_151_code 9 = .ok (.aload_n 0, 1) := by decide +kernel
theorem d5_10 : decode jdk_42_method_151_code 10 = .ok (.iload_n 2, 1) := by decide +kernel
theorem d5_11 : decode jdk_42_method_151_code 11 = .ok (.putfield 15, 3) := by decide +kernel
theorem d5_14 : decode jdk_42_method_151_code 14 = .ok (.return_, 1) := by decide +kernel
theorem ef_rm2 (x : Int32) (m : MethodId) : entryFrame m #[(.int x)] 1 = mkF m 0 #[.val (.int x)] [] := by first | (simp [entryFrame, mkF, argsToLocals, Value.category, maxLocals]; done) | rfl
theorem pn_java_lang_String_valueOf__C_Ljava_lang_String_ : plainFor (⟨"java/lang/String", "valueOf", "(C)Ljava/lang/String;"⟩ : MethodName) = true := by first | exact plainFor_of_name (by first | (simp [plainName, overriddenIn]; done) | decide +kernel) | decide +kernel
theorem d2_0 : decode jdk_42_method_139_code 0 = .ok (.getstatic 38, 3) := by decide +kernel
theorem d2_3 : decode jdk_42_method_139_code 3 = .ok (.ifCond .eq 23, 3) := by decide +kernel
theorem d2_6 : decode jdk_42_method_139_code 6 = .ok (.iload_n 0, 1) := by decide +kernel
theorem d2_7 : decode jdk_42_method_139_code 7 = .ok (.invokestatic 1015, 3) := by decide +kernel
theorem pd__28C_29Z : parseMethodDescriptor "(C)Z" = some ⟨[.char], some .boolean⟩ := by decide +kernel
theorem d2_10 : decode jdk_42_method_139_code 10 = .ok (.ifCond .eq 16, 3) := by decide +kernel
theorem d2_13 : decode jdk_42_method_139_code 13 = .ok (.new 10, 3) := by decide +kernel
theorem d2_16 : decode jdk_42_method_139_code 16 = .ok (.dup, 1) := by decide +kernel
theorem d2_17 : decode jdk_42_method_139_code 17 = .ok (.iload_n 0, 1) := by decide +kernel
theorem d2_18 : decode jdk_42_method_139_code 18 = .ok (.invokestatic 1018, 3) := by decide +kernel
theorem pd__28C_29_5bB : parseMethodDescriptor "(C)[B" = some ⟨[.char], some (.array .byte)⟩ := by decide +kernel
theorem d2_21 : decode jdk_42_method_139_code 21 = .ok (.iconst 0, 1) := by decide +kernel
theorem d2_22 : decode jdk_42_method_139_code 22 = .ok (.invokespecial 209, 3) := by decide +kernel
theorem pd__28_5bBB_29V : parseMethodDescriptor "([BB)V" = some ⟨[(.array .byte), .byte], none⟩ := by decide +kernel
theorem d2_25 : decode jdk_42_method_139_code 25 = .ok (.areturn, 1) := by decide +kernel
theorem ef_rm28 (b : Addr) (d : Addr) (kb : ClassId) (kd : ClassId) (x0 : Int32) (x1 : Int32) (m : MethodId) : entryFrame m #[(.ref b), (.int 0), (.ref d), (.int 0), (.int 2)] 7 = mkF m 0 #[.val (.ref b), .val (.int 0), .val (.ref d), .val (.int 0), .val (.int 2), .unset, .unset] [] := by first | (simp [entryFrame, mkF, argsToLocals, Value.category, maxLocals]; done) | rfl
theorem pn_java_lang_StringUTF16_compress___CI_BII_I : plainFor (⟨"java/lang/StringUTF16", "compress", "([CI[BII)I"⟩ : MethodName) = true := by first | exact plainFor_of_name (by first | (simp [plainName, overriddenIn]; done) | decide +kernel) | decide +kernel
theorem d28_0 : decode jdk_52_method_21_code 0 = .ok (.iconst 0, 1) := by decide +kernel
theorem d28_1 : decode jdk_52_method_21_code 1 = .ok (.istore 5, 2) := by decide +kernel
theorem d28_3 : decode jdk_52_method_21_code 3 = .ok (.iload 5, 2) := by decide +kernel
theorem d28_5 : decode jdk_52_method_21_code 5 = .ok (.iload 4, 2) := by decide +kernel
theorem d28_7 : decode jdk_52_method_21_code 7 = .ok (.if_icmp .ge 37, 3) := by decide +kernel
theorem d28_10 : decode jdk_52_method_21_code 10 = .ok (.aload_n 0, 1) := by decide +kernel
theorem d28_11 : decode jdk_52_method_21_code 11 = .ok (.iload_n 1, 1) := by decide +kernel
theorem d28_12 : decode jdk_52_method_21_code 12 = .ok (.caload, 1) := by decide +kernel
theorem d28_13 : decode jdk_52_method_21_code 13 = .ok (.istore 6, 2) := by decide +kernel
theorem d28_15 : decode jdk_52_method_21_code 15 = .ok (.iload 6, 2) := by decide +kernel
theorem d28_17 : decode jdk_52_method_21_code 17 = .ok (.sipush 255, 3) := by decide +kernel
theorem d28_20 : decode jdk_52_method_21_code 20 = .ok (.if_icmp .le 6, 3) := by decide +kernel
theorem d28_26 : decode jdk_52_method_21_code 26 = .ok (.aload_n 2, 1) := by decide +kernel
theorem d28_27 : decode jdk_52_method_21_code 27 = .ok (.iload_n 3, 1) := by decide +kernel
theorem d28_28 : decode jdk_52_method_21_code 28 = .ok (.iload 6, 2) := by decide +kernel
theorem d28_30 : decode jdk_52_method_21_code 30 = .ok (.i2b, 1) := by decide +kernel
theorem d28_31 : decode jdk_52_method_21_code 31 = .ok (.bastore, 1) := by decide +kernel
theorem d28_32 : decode jdk_52_method_21_code 32 = .ok (.iinc 1 1, 3) := by decide +kernel
theorem d28_35 : decode jdk_52_method_21_code 35 = .ok (.iinc 3 1, 3) := by decide +kernel
theorem d28_38 : decode jdk_52_method_21_code 38 = .ok (.iinc 5 1, 3) := by decide +kernel
theorem d28_41 : decode jdk_52_method_21_code 41 = .ok (.goto (-38), 3) := by decide +kernel
theorem d28_44 : decode jdk_52_method_21_code 44 = .ok (.iload 4, 2) := by decide +kernel
theorem d28_46 : decode jdk_52_method_21_code 46 = .ok (.ireturn, 1) := by decide +kernel
theorem ef_rm27 (b : Addr) (kb : ClassId) (x0 : Int32) (x1 : Int32) (m : MethodId) : entryFrame m #[(.ref b), (.int 0), (.int 2)] 6 = mkF m 0 #[.val (.ref b), .val (.int 0), .val (.int 2), .unset, .unset, .unset] [] := by first | (simp [entryFrame, mkF, argsToLocals, Value.category, maxLocals]; done) | rfl
theorem pn_java_lang_StringUTF16_compress___CII__B : plainFor (⟨"java/lang/StringUTF16", "compress", "([CII)[B"⟩ : MethodName) = true := by first | exact plainFor_of_name (by first | (simp [plainName, overriddenIn]; done) | decide +kernel) | decide +kernel
theorem d27_0 : decode jdk_52_method_16_code 0 = .ok (.iload_n 2, 1) := by decide +kernel
theorem d27_1 : decode jdk_52_method_16_code 1 = .ok (.newarray .byte, 2) := by decide +kernel
theorem d27_3 : decode jdk_52_method_16_code 3 = .ok (.astore_n 3, 1) := by decide +kernel
theorem d27_4 : decode jdk_52_method_16_code 4 = .ok (.aload_n 0, 1) := by decide +kernel
theorem d27_5 : decode jdk_52_method_16_code 5 = .ok (.iload_n 1, 1) := by decide +kernel
theorem d27_6 : decode jdk_52_method_16_code 6 = .ok (.aload_n 3, 1) := by decide +kernel
theorem d27_7 : decode jdk_52_method_16_code 7 = .ok (.iconst 0, 1) := by decide +kernel
theorem d27_8 : decode jdk_52_method_16_code 8 = .ok (.iload_n 2, 1) := by decide +kernel
theorem d27_9 : decode jdk_52_method_16_code 9 = .ok (.invokestatic 115, 3) := by decide +kernel
theorem pd__28_5bCI_5bBII_29I : parseMethodDescriptor "([CI[BII)I" = some ⟨[(.array .char), .int, (.array .byte), .int, .int], some .int⟩ := by decide +kernel
theorem d27_12 : decode jdk_52_method_16_code 12 = .ok (.istore 4, 2) := by decide +kernel
theorem d27_14 : decode jdk_52_method_16_code 14 = .ok (.iload 4, 2) := by decide +kernel
theorem d27_16 : decode jdk_52_method_16_code 16 = .ok (.iload_n 2, 1) := by decide +kernel
theorem d27_17 : decode jdk_52_method_16_code 17 = .ok (.if_icmp .eq 40, 3) := by decide +kernel
theorem d27_57 : decode jdk_52_method_16_code 57 = .ok (.aload_n 3, 1) := by decide +kernel
theorem d27_58 : decode jdk_52_method_16_code 58 = .ok (.areturn, 1) := by decide +kernel
theorem ef_rm29 (b : Addr) (kb : ClassId) (vs : List Value) (dv : Value) (m : MethodId) : entryFrame m #[(.ref b), (.int 2)] 2 = mkF m 0 #[.val (.ref b), .val (.int 2)] [] := by first | (simp [entryFrame, mkF, argsToLocals, Value.category, maxLocals]; done) | rfl
theorem pn_java_lang_StringUTF16_coderFromArrayLen___BI_B : plainFor (⟨"java/lang/StringUTF16", "coderFromArrayLen", "([BI)B"⟩ : MethodName) = true := by first | exact plainFor_of_name (by first | (simp [plainName, overriddenIn]; done) | decide +kernel) | decide +kernel
theorem d29_0 : decode jdk_52_method_15_code 0 = .ok (.iload_n 1, 1) := by decide +kernel
theorem d29_1 : decode jdk_52_method_15_code 1 = .ok (.aload_n 0, 1) := by decide +kernel
theorem d29_2 : decode jdk_52_method_15_code 2 = .ok (.arraylength, 1) := by decide +kernel
theorem d29_3 : decode jdk_52_method_15_code 3 = .ok (.isub, 1) := by decide +kernel
theorem d29_4 : decode jdk_52_method_15_code 4 = .ok (.bipush 31, 2) := by decide +kernel
theorem d29_6 : decode jdk_52_method_15_code 6 = .ok (.iushr, 1) := by decide +kernel
theorem d29_7 : decode jdk_52_method_15_code 7 = .ok (.i2b, 1) := by decide +kernel
theorem d29_8 : decode jdk_52_method_15_code 8 = .ok (.ireturn, 1) := by decide +kernel
theorem ef_rm26 (a : Addr) (b : Addr) (kb : ClassId) (x0 : Int32) (x1 : Int32) (m : MethodId) : entryFrame m #[(.ref a), (.ref b), (.int 0), (.int 2), .null] 6 = mkF m 0 #[.val (.ref a), .val (.ref b), .val (.int 0), .val (.int 2), .val .null, .unset] [] := by first | (simp [entryFrame, mkF, argsToLocals, Value.category, maxLocals]; done) | rfl
theorem pn_java_lang_String__init____CIILjava_lang_Void__V : plainFor (⟨"java/lang/String", "<init>", "([CIILjava/lang/Void;)V"⟩ : MethodName) = true := by first | exact plainFor_of_name (by first | (simp [plainName, overriddenIn]; done) | decide +kernel) | decide +kernel
theorem d26_0 : decode jdk_42_method_149_code 0 = .ok (.aload_n 0, 1) := by decide +kernel
theorem d26_1 : decode jdk_42_method_149_code 1 = .ok (.invokespecial 1, 3) := by decide +kernel
theorem d26_4 : decode jdk_42_method_149_code 4 = .ok (.iload_n 3, 1) := by decide +kernel
theorem d26_5 : decode jdk_42_method_149_code 5 = .ok (.ifCond .ne 22, 3) := by decide +kernel
theorem d26_27 : decode jdk_42_method_149_code 27 = .ok (.getstatic 38, 3) := by decide +kernel
theorem d26_30 : decode jdk_42_method_149_code 30 = .ok (.ifCond .eq 28, 3) := by decide +kernel
theorem d26_33 : decode jdk_42_method_149_code 33 = .ok (.aload_n 1, 1) := by decide +kernel
theorem d26_34 : decode jdk_42_method_149_code 34 = .ok (.iload_n 2, 1) := by decide +kernel
theorem d26_35 : decode jdk_42_method_149_code 35 = .ok (.iload_n 3, 1) := by decide +kernel
theorem d26_36 : decode jdk_42_method_149_code 36 = .ok (.invokestatic 177, 3) := by decide +kernel
theorem pd__28_5bCII_29_5bB : parseMethodDescriptor "([CII)[B" = some ⟨[(.array .char), .int, .int], some (.array .byte)⟩ := by decide +kernel
theorem d26_39 : decode jdk_42_method_149_code 39 = .ok (.astore 5, 2) := by decide +kernel
theorem d26_41 : decode jdk_42_method_149_code 41 = .ok (.aload_n 0, 1) := by decide +kernel
theorem d26_42 : decode jdk_42_method_149_code 42 = .ok (.aload 5, 2) := by decide +kernel
theorem d26_44 : decode jdk_42_method_149_code 44 = .ok (.iload_n 3, 1) := by decide +kernel
theorem d26_45 : decode jdk_42_method_149_code 45 = .ok (.invokestatic 47, 3) := by decide +kernel
theorem pd__28_5bBI_29B : parseMethodDescriptor "([BI)B" = some ⟨[(.array .byte), .int], some .byte⟩ := by decide +kernel
theorem d26_48 : decode jdk_42_method_149_code 48 = .ok (.putfield 15, 3) := by decide +kernel
theorem d26_51 : decode jdk_42_method_149_code 51 = .ok (.aload_n 0, 1) := by decide +kernel
theorem d26_52 : decode jdk_42_method_149_code 52 = .ok (.aload 5, 2) := by decide +kernel
theorem d26_54 : decode jdk_42_method_149_code 54 = .ok (.putfield 9, 3) := by decide +kernel
theorem d26_57 : decode jdk_42_method_149_code 57 = .ok (.return_, 1) := by decide +kernel
theorem ef_rm25 (a : Addr) (b : Addr) (kb : ClassId) (x0 : Int32) (x1 : Int32) (m : MethodId) : entryFrame m #[(.ref a), (.ref b)] 2 = mkF m 0 #[.val (.ref a), .val (.ref b)] [] := by first | (simp [entryFrame, mkF, argsToLocals, Value.category, maxLocals]; done) | rfl
theorem pn_java_lang_String__init____C_V : plainFor (⟨"java/lang/String", "<init>", "([C)V"⟩ : MethodName) = true := by first | exact plainFor_of_name (by first | (simp [plainName, overriddenIn]; done) | decide +kernel) | decide +kernel
theorem d25_0 : decode jdk_42_method_3_code 0 = .ok (.aload_n 0, 1) := by decide +kernel
theorem d25_1 : decode jdk_42_method_3_code 1 = .ok (.aload_n 1, 1) := by decide +kernel
theorem d25_2 : decode jdk_42_method_3_code 2 = .ok (.iconst 0, 1) := by decide +kernel
theorem d25_3 : decode jdk_42_method_3_code 3 = .ok (.aload_n 1, 1) := by decide +kernel
theorem d25_4 : decode jdk_42_method_3_code 4 = .ok (.arraylength, 1) := by decide +kernel
theorem d25_5 : decode jdk_42_method_3_code 5 = .ok (.aconst_null, 1) := by decide +kernel
theorem d25_6 : decode jdk_42_method_3_code 6 = .ok (.invokespecial 27, 3) := by decide +kernel
theorem pd__28_5bCIILjava_2flang_2fVoid_3b_29V : parseMethodDescriptor "([CIILjava/lang/Void;)V" = some ⟨[(.array .char), .int, .int, (.object "java/lang/Void")], none⟩ := by decide +kernel
theorem d25_9 : decode jdk_42_method_3_code 9 = .ok (.return_, 1) := by decide +kernel
theorem ef_rm1 (x : Int32) (m : MethodId) : entryFrame m #[(.int x)] 2 = mkF m 0 #[.val (.int x), .unset] [] := by first | (simp [entryFrame, mkF, argsToLocals, Value.category, maxLocals]; done) | rfl
theorem pn_com_example_ratable_ratable_core_PostedByIdAtPinLaw_id__I_Ljava_lang_String_ : plainFor (⟨"com/example/ratable/ratable/core/PostedByIdAtPinLaw", "id", "(I)Ljava/lang/String;"⟩ : MethodName) = true := by first | exact plainFor_of_name (by first | (simp [plainName, overriddenIn]; done) | decide +kernel) | decide +kernel
theorem d1_0 : decode method_4_code 0 = .ok (.iload_n 0, 1) := by decide +kernel
theorem d1_1 : decode method_4_code 1 = .ok (.bipush 16, 2) := by decide +kernel
theorem d1_3 : decode method_4_code 3 = .ok (.iushr, 1) := by decide +kernel
theorem d1_4 : decode method_4_code 4 = .ok (.iconst 1, 1) := by decide +kernel
theorem d1_5 : decode method_4_code 5 = .ok (.iand, 1) := by decide +kernel
theorem d1_6 : decode method_4_code 6 = .ok (.ifCond .ne 13, 3) := by decide +kernel
theorem d1_9 : decode method_4_code 9 = .ok (.iload_n 0, 1) := by decide +kernel
theorem d1_10 : decode method_4_code 10 = .ok (.sipush 255, 3) := by decide +kernel
theorem d1_13 : decode method_4_code 13 = .ok (.iand, 1) := by decide +kernel
theorem d1_14 : decode method_4_code 14 = .ok (.i2c, 1) := by decide +kernel
theorem d1_15 : decode method_4_code 15 = .ok (.invokestatic 43, 3) := by decide +kernel
theorem pd__28C_29Ljava_2flang_2fString_3b : parseMethodDescriptor "(C)Ljava/lang/String;" = some ⟨[.char], some (.object "java/lang/String")⟩ := by decide +kernel
theorem d1_18 : decode method_4_code 18 = .ok (.areturn, 1) := by decide +kernel
theorem d1_19 : decode method_4_code 19 = .ok (.iconst 2, 1) := by decide +kernel
theorem d1_20 : decode method_4_code 20 = .ok (.newarray .char, 2) := by decide +kernel
theorem d1_22 : decode method_4_code 22 = .ok (.astore_n 1, 1) := by decide +kernel
theorem d1_23 : decode method_4_code 23 = .ok (.aload_n 1, 1) := by decide +kernel
theorem d1_24 : decode method_4_code 24 = .ok (.iconst 0, 1) := by decide +kernel
theorem d1_25 : decode method_4_code 25 = .ok (.iload_n 0, 1) := by decide +kernel
theorem d1_26 : decode method_4_code 26 = .ok (.sipush 255, 3) := by decide +kernel
theorem d1_29 : decode method_4_code 29 = .ok (.iand, 1) := by decide +kernel
theorem d1_30 : decode method_4_code 30 = .ok (.i2c, 1) := by decide +kernel
theorem d1_31 : decode method_4_code 31 = .ok (.castore, 1) := by decide +kernel
theorem d1_32 : decode method_4_code 32 = .ok (.aload_n 1, 1) := by decide +kernel
theorem d1_33 : decode method_4_code 33 = .ok (.iconst 1, 1) := by decide +kernel
theorem d1_34 : decode method_4_code 34 = .ok (.iload_n 0, 1) := by decide +kernel
theorem d1_35 : decode method_4_code 35 = .ok (.bipush 8, 2) := by decide +kernel
theorem d1_37 : decode method_4_code 37 = .ok (.iushr, 1) := by decide +kernel
theorem d1_38 : decode method_4_code 38 = .ok (.sipush 255, 3) := by decide +kernel
theorem d1_41 : decode method_4_code 41 = .ok (.iand, 1) := by decide +kernel
theorem d1_42 : decode method_4_code 42 = .ok (.i2c, 1) := by decide +kernel
theorem d1_43 : decode method_4_code 43 = .ok (.castore, 1) := by decide +kernel
theorem d1_44 : decode method_4_code 44 = .ok (.new 15, 3) := by decide +kernel
theorem d1_47 : decode method_4_code 47 = .ok (.dup, 1) := by decide +kernel
theorem d1_48 : decode method_4_code 48 = .ok (.aload_n 1, 1) := by decide +kernel
theorem d1_49 : decode method_4_code 49 = .ok (.invokespecial 47, 3) := by decide +kernel
theorem pd__28_5bC_29V : parseMethodDescriptor "([C)V" = some ⟨[(.array .char)], none⟩ := by decide +kernel
theorem d1_52 : decode method_4_code 52 = .ok (.areturn, 1) := by decide +kernel
theorem ef_rm12 (a : Addr) (m : MethodId) : entryFrame m #[(.ref a)] 1 = mkF m 0 #[.val (.ref a)] [] := by first | (simp [entryFrame, mkF, argsToLocals, Value.category, maxLocals]; done) | rfl
theorem pn_java_lang_String_isLatin1___Z : plainFor (⟨"java/lang/String", "isLatin1", "()Z"⟩ : MethodName) = true := by first | exact plainFor_of_name (by first | (simp [plainName, overriddenIn]; done) | decide +kernel) | decide +kernel
theorem d12_0 : decode jdk_42_method_154_code 0 = .ok (.getstatic 38, 3) := by decide +kernel
theorem d12_3 : decode jdk_42_method_154_code 3 = .ok (.ifCond .eq 14, 3) := by decide +kernel
theorem d12_6 : decode jdk_42_method_154_code 6 = .ok (.aload_n 0, 1) := by decide +kernel
theorem d12_7 : decode jdk_42_method_154_code 7 = .ok (.getfield 15, 3) := by decide +kernel
theorem d12_10 : decode jdk_42_method_154_code 10 = .ok (.ifCond .ne 7, 3) := by decide +kernel
theorem d12_13 : decode jdk_42_method_154_code 13 = .ok (.iconst 1, 1) := by decide +kernel
theorem d12_14 : decode jdk_42_method_154_code 14 = .ok (.goto 4, 3) := by decide +kernel
theorem d12_18 : decode jdk_42_method_154_code 18 = .ok (.ireturn, 1) := by decide +kernel
theorem ef_rm31 (t : Addr) (kt : ClassId) (x : Int32) (y : Int32) (m : MethodId) : entryFrame m #[(.int 0), (.ref t), (.int 0), (.int 2)] 6 = mkF m 0 #[.val (.int 0), .val (.ref t), .val (.int 0), .val (.int 2), .unset, .unset] [] := by first | (simp [entryFrame, mkF, argsToLocals, Value.category, maxLocals]; done) | rfl
theorem pn_jdk_internal_util_ArraysSupport_signedHashCode__I_BII_I : plainFor (⟨"jdk/internal/util/ArraysSupport", "signedHashCode", "(I[BII)I"⟩ : MethodName) = true := by first | exact plainFor_of_name (by first | (simp [plainName, overriddenIn]; done) | decide +kernel) | decide +kernel
theorem d31_0 : decode jdk_48_method_5_code 0 = .ok (.iload_n 2, 1) := by decide +kernel
theorem d31_1 : decode jdk_48_method_5_code 1 = .ok (.iload_n 3, 1) := by decide +kernel
theorem d31_2 : decode jdk_48_method_5_code 2 = .ok (.iadd, 1) := by decide +kernel
theorem d31_3 : decode jdk_48_method_5_code 3 = .ok (.istore 4, 2) := by decide +kernel
theorem d31_5 : decode jdk_48_method_5_code 5 = .ok (.iload_n 2, 1) := by decide +kernel
theorem d31_6 : decode jdk_48_method_5_code 6 = .ok (.istore 5, 2) := by decide +kernel
theorem d31_8 : decode jdk_48_method_5_code 8 = .ok (.iload 5, 2) := by decide +kernel
theorem d31_10 : decode jdk_48_method_5_code 10 = .ok (.iload 4, 2) := by decide +kernel
theorem d31_12 : decode jdk_48_method_5_code 12 = .ok (.if_icmp .ge 23, 3) := by decide +kernel
theorem d31_15 : decode jdk_48_method_5_code 15 = .ok (.bipush 31, 2) := by decide +kernel
theorem d31_17 : decode jdk_48_method_5_code 17 = .ok (.iload_n 0, 1) := by decide +kernel
theorem d31_18 : decode jdk_48_method_5_code 18 = .ok (.imul, 1) := by decide +kernel
theorem d31_19 : decode jdk_48_method_5_code 19 = .ok (.aload_n 1, 1) := by decide +kernel
theorem d31_20 : decode jdk_48_method_5_code 20 = .ok (.iload 5, 2) := by decide +kernel
theorem d31_22 : decode jdk_48_method_5_code 22 = .ok (.baload, 1) := by decide +kernel
theorem d31_23 : decode jdk_48_method_5_code 23 = .ok (.sipush 255, 3) := by decide +kernel
theorem d31_26 : decode jdk_48_method_5_code 26 = .ok (.iand, 1) := by decide +kernel
theorem d31_27 : decode jdk_48_method_5_code 27 = .ok (.iadd, 1) := by decide +kernel
theorem d31_28 : decode jdk_48_method_5_code 28 = .ok (.istore_n 0, 1) := by decide +kernel
theorem d31_29 : decode jdk_48_method_5_code 29 = .ok (.iinc 5 1, 3) := by decide +kernel
theorem d31_32 : decode jdk_48_method_5_code 32 = .ok (.goto (-24), 3) := by decide +kernel
theorem d31_35 : decode jdk_48_method_5_code 35 = .ok (.iload_n 0, 1) := by decide +kernel
theorem d31_36 : decode jdk_48_method_5_code 36 = .ok (.ireturn, 1) := by decide +kernel
theorem ef_rm30 (t : Addr) (kt : ClassId) (x : Int32) (y : Int32) (m : MethodId) : entryFrame m #[(.ref t), (.int 0), (.int 2), (.int 0), (.int 4)] 5 = mkF m 0 #[.val (.ref t), .val (.int 0), .val (.int 2), .val (.int 0), .val (.int 4)] [] := by first | (simp [entryFrame, mkF, argsToLocals, Value.category, maxLocals]; done) | rfl
theorem pn_jdk_internal_util_ArraysSupport_vectorizedHashCode__Ljava_lang_Object_IIII_I : plainFor (⟨"jdk/internal/util/ArraysSupport", "vectorizedHashCode", "(Ljava/lang/Object;IIII)I"⟩ : MethodName) = true := by first | exact plainFor_of_name (by first | (simp [plainName, overriddenIn]; done) | decide +kernel) | decide +kernel
theorem d30_0 : decode jdk_48_method_4_code 0 = .ok (.iload 4, 2) := by decide +kernel
theorem d30_2 : decode jdk_48_method_4_code 2 = .ok (.tableswitch 127 4 10 #[42, 55, 127, 127, 88, 101, 114], 42) := by decide +kernel
theorem d30_44 : decode jdk_48_method_4_code 44 = .ok (.iload_n 3, 1) := by decide +kernel
theorem d30_45 : decode jdk_48_method_4_code 45 = .ok (.aload_n 0, 1) := by decide +kernel
theorem d30_46 : decode jdk_48_method_4_code 46 = .ok (.checkcast 60, 3) := by decide +kernel
theorem d30_49 : decode jdk_48_method_4_code 49 = .ok (.iload_n 1, 1) := by decide +kernel
theorem d30_50 : decode jdk_48_method_4_code 50 = .ok (.iload_n 2, 1) := by decide +kernel
theorem d30_51 : decode jdk_48_method_4_code 51 = .ok (.invokestatic 62, 3) := by decide +kernel
theorem pd__28I_5bBII_29I : parseMethodDescriptor "(I[BII)I" = some ⟨[.int, (.array .byte), .int, .int], some .int⟩ := by decide +kernel
theorem d30_54 : decode jdk_48_method_4_code 54 = .ok (.goto 103, 3) := by decide +kernel
theorem d30_157 : decode jdk_48_method_4_code 157 = .ok (.ireturn, 1) := by decide +kernel
theorem ef_rh_l1 (t : Addr) (kt : ClassId) (x : Int32) (m : MethodId) : entryFrame m #[(.ref t)] 1 = mkF m 0 #[.val (.ref t)] [] := by first | (simp [entryFrame, mkF, argsToLocals, Value.category, maxLocals]; done) | rfl
theorem pn_java_lang_StringLatin1_hashCode___B_I : plainFor (⟨"java/lang/StringLatin1", "hashCode", "([B)I"⟩ : MethodName) = true := by first | exact plainFor_of_name (by first | (simp [plainName, overriddenIn]; done) | decide +kernel) | decide +kernel
theorem d13_0 : decode jdk_43_method_21_code 0 = .ok (.aload_n 0, 1) := by decide +kernel
theorem d13_1 : decode jdk_43_method_21_code 1 = .ok (.arraylength, 1) := by decide +kernel
theorem d13_2 : decode jdk_43_method_21_code 2 = .ok (.lookupswitch 40 #[(0, 26), (1, 30)], 26) := by decide +kernel
theorem d13_32 : decode jdk_43_method_21_code 32 = .ok (.aload_n 0, 1) := by decide +kernel
theorem d13_33 : decode jdk_43_method_21_code 33 = .ok (.iconst 0, 1) := by decide +kernel
theorem d13_34 : decode jdk_43_method_21_code 34 = .ok (.baload, 1) := by decide +kernel
theorem d13_35 : decode jdk_43_method_21_code 35 = .ok (.sipush 255, 3) := by decide +kernel
theorem d13_38 : decode jdk_43_method_21_code 38 = .ok (.iand, 1) := by decide +kernel
theorem d13_39 : decode jdk_43_method_21_code 39 = .ok (.goto 12, 3) := by decide +kernel
theorem d13_51 : decode jdk_43_method_21_code 51 = .ok (.ireturn, 1) := by decide +kernel
theorem ef_rh_l2 (t : Addr) (kt : ClassId) (x : Int32) (y : Int32) (m : MethodId) : entryFrame m #[(.ref t)] 1 = mkF m 0 #[.val (.ref t)] [] := by first | (simp [entryFrame, mkF, argsToLocals, Value.category, maxLocals]; done) | rfl
theorem d13_42 : decode jdk_43_method_21_code 42 = .ok (.aload_n 0, 1) := by decide +kernel
theorem d13_43 : decode jdk_43_method_21_code 43 = .ok (.iconst 0, 1) := by decide +kernel
theorem d13_44 : decode jdk_43_method_21_code 44 = .ok (.aload_n 0, 1) := by decide +kernel
theorem d13_45 : decode jdk_43_method_21_code 45 = .ok (.arraylength, 1) := by decide +kernel
theorem d13_46 : decode jdk_43_method_21_code 46 = .ok (.iconst 0, 1) := by decide +kernel
theorem d13_47 : decode jdk_43_method_21_code 47 = .ok (.iconst 4, 1) := by decide +kernel
theorem d13_48 : decode jdk_43_method_21_code 48 = .ok (.invokestatic 84, 3) := by decide +kernel
theorem pd__28Ljava_2flang_2fObject_3bIIII_29I : parseMethodDescriptor "(Ljava/lang/Object;IIII)I" = some ⟨[(.object "java/lang/Object"), .int, .int, .int, .int], some .int⟩ := by decide +kernel
theorem ef_rh_first (u : Addr) (t : Addr) (kt : ClassId) (cs : List Int32) (m : MethodId) : entryFrame m #[(.ref u)] 2 = mkF m 0 #[.val (.ref u), .unset] [] := by first | (simp [entryFrame, mkF, argsToLocals, Value.category, maxLocals]; done) | rfl
theorem pn_java_lang_String_hashCode___I : plainFor (⟨"java/lang/String", "hashCode", "()I"⟩ : MethodName) = true := by first | exact plainFor_of_name (by first | (simp [plainName, overriddenIn]; done) | decide +kernel) | decide +kernel
theorem d11_0 : decode jdk_42_method_78_code 0 = .ok (.aload_n 0, 1) := by decide +kernel
theorem d11_1 : decode jdk_42_method_78_code 1 = .ok (.getfield 19, 3) := by decide +kernel
theorem d11_4 : decode jdk_42_method_78_code 4 = .ok (.istore_n 1, 1) := by decide +kernel
theorem d11_5 : decode jdk_42_method_78_code 5 = .ok (.iload_n 1, 1) := by decide +kernel
theorem d11_6 : decode jdk_42_method_78_code 6 = .ok (.ifCond .ne 52, 3) := by decide +kernel
theorem d11_9 : decode jdk_42_method_78_code 9 = .ok (.aload_n 0, 1) := by decide +kernel
theorem d11_10 : decode jdk_42_method_78_code 10 = .ok (.getfield 23, 3) := by decide +kernel
theorem d11_13 : decode jdk_42_method_78_code 13 = .ok (.ifCond .ne 45, 3) := by decide +kernel
theorem d11_16 : decode jdk_42_method_78_code 16 = .ok (.aload_n 0, 1) := by decide +kernel
theorem d11_17 : decode jdk_42_method_78_code 17 = .ok (.invokevirtual 492, 3) := by decide +kernel
theorem pd__28_29Z : parseMethodDescriptor "()Z" = some ⟨[], some .boolean⟩ := by decide +kernel
theorem d11_20 : decode jdk_42_method_78_code 20 = .ok (.ifCond .eq 13, 3) := by decide +kernel
theorem d11_23 : decode jdk_42_method_78_code 23 = .ok (.aload_n 0, 1) := by decide +kernel
theorem d11_24 : decode jdk_42_method_78_code 24 = .ok (.getfield 9, 3) := by decide +kernel
theorem d11_27 : decode jdk_42_method_78_code 27 = .ok (.invokestatic 628, 3) := by decide +kernel
theorem pd__28_5bB_29I : parseMethodDescriptor "([B)I" = some ⟨[(.array .byte)], some .int⟩ := by decide +kernel
theorem d11_30 : decode jdk_42_method_78_code 30 = .ok (.goto 10, 3) := by decide +kernel
theorem d11_40 : decode jdk_42_method_78_code 40 = .ok (.istore_n 1, 1) := by decide +kernel
theorem d11_41 : decode jdk_42_method_78_code 41 = .ok (.iload_n 1, 1) := by decide +kernel
theorem d11_42 : decode jdk_42_method_78_code 42 = .ok (.ifCond .ne 11, 3) := by decide +kernel
theorem d11_45 : decode jdk_42_method_78_code 45 = .ok (.aload_n 0, 1) := by decide +kernel
theorem d11_46 : decode jdk_42_method_78_code 46 = .ok (.iconst 1, 1) := by decide +kernel
theorem d11_47 : decode jdk_42_method_78_code 47 = .ok (.putfield 23, 3) := by decide +kernel
theorem d11_50 : decode jdk_42_method_78_code 50 = .ok (.goto 8, 3) := by decide +kernel
theorem d11_58 : decode jdk_42_method_78_code 58 = .ok (.iload_n 1, 1) := by decide +kernel
theorem d11_59 : decode jdk_42_method_78_code 59 = .ok (.ireturn, 1) := by decide +kernel
theorem d11_53 : decode jdk_42_method_78_code 53 = .ok (.aload_n 0, 1) := by decide +kernel
theorem d11_54 : decode jdk_42_method_78_code 54 = .ok (.iload_n 1, 1) := by decide +kernel
theorem d11_55 : decode jdk_42_method_78_code 55 = .ok (.putfield 19, 3) := by decide +kernel
theorem ef_rh_again (u : Addr) (t : Addr) (kt : ClassId) (cs : List Int32) (m : MethodId) : entryFrame m #[(.ref u)] 2 = mkF m 0 #[.val (.ref u), .unset] [] := by first | (simp [entryFrame, mkF, argsToLocals, Value.category, maxLocals]; done) | rfl
theorem ef_rh_pf (u : Addr) (t : Addr) (kt : ClassId) (cs : List Int32) (m : MethodId) : entryFrame m #[(.ref u)] 2 = mkF m 0 #[.val (.ref u), .unset] [] := by first | (simp [entryFrame, mkF, argsToLocals, Value.category, maxLocals]; done) | rfl
theorem pn_com_example_ratable_ratable_core_PostedById_hash__Ljava_lang_String__I : plainFor (⟨"com/example/ratable/ratable/core/PostedById", "hash", "(Ljava/lang/String;)I"⟩ : MethodName) = true := by first | exact plainFor_of_name (by first | (simp [plainName, overriddenIn]; done) | decide +kernel) | decide +kernel
theorem d10_0 : decode prog_64_method_11_code 0 = .ok (.aload_n 0, 1) := by decide +kernel
theorem d10_1 : decode prog_64_method_11_code 1 = .ok (.invokevirtual 83, 3) := by decide +kernel
theorem pd__28_29I : parseMethodDescriptor "()I" = some ⟨[], some .int⟩ := by decide +kernel
theorem d10_4 : decode prog_64_method_11_code 4 = .ok (.istore_n 1, 1) := by decide +kernel
theorem d10_5 : decode prog_64_method_11_code 5 = .ok (.iload_n 1, 1) := by decide +kernel
theorem d10_6 : decode prog_64_method_11_code 6 = .ok (.iload_n 1, 1) := by decide +kernel
theorem d10_7 : decode prog_64_method_11_code 7 = .ok (.bipush 16, 2) := by decide +kernel
theorem d10_9 : decode prog_64_method_11_code 9 = .ok (.iushr, 1) := by decide +kernel
theorem d10_10 : decode prog_64_method_11_code 10 = .ok (.ixor, 1) := by decide +kernel
theorem d10_11 : decode prog_64_method_11_code 11 = .ok (.ireturn, 1) := by decide +kernel
theorem ef_rh_pa (u : Addr) (t : Addr) (kt : ClassId) (cs : List Int32) (m : MethodId) : entryFrame m #[(.ref u)] 2 = mkF m 0 #[.val (.ref u), .unset] [] := by first | (simp [entryFrame, mkF, argsToLocals, Value.category, maxLocals]; done) | rfl
theorem ef_rs_4 (a : Addr) (m : MethodId) : entryFrame m #[(.ref a), (.int 4)] 2 = mkF m 0 #[.val (.ref a), .val (.int 4)] [] := by first | (simp [entryFrame, mkF, argsToLocals, Value.category, maxLocals]; done) | rfl
theorem pn_com_example_ratable_ratable_core_Posted_Sums__init___I_V : plainFor (⟨"com/example/ratable/ratable/core/Posted$Sums", "<init>", "(I)V"⟩ : MethodName) = true := by first | exact plainFor_of_name (by first | (simp [plainName, overriddenIn]; done) | decide +kernel) | decide +kernel
theorem d15_0 : decode prog_63_method_1_code 0 = .ok (.aload_n 0, 1) := by decide +kernel
theorem d15_1 : decode prog_63_method_1_code 1 = .ok (.invokespecial 1, 3) := by decide +kernel
theorem d15_4 : decode prog_63_method_1_code 4 = .ok (.aload_n 0, 1) := by decide +kernel
theorem d15_5 : decode prog_63_method_1_code 5 = .ok (.iconst 2, 1) := by decide +kernel
theorem d15_6 : decode prog_63_method_1_code 6 = .ok (.iload_n 1, 1) := by decide +kernel
theorem d15_7 : decode prog_63_method_1_code 7 = .ok (.imul, 1) := by decide +kernel
theorem d15_8 : decode prog_63_method_1_code 8 = .ok (.anewarray 2, 3) := by decide +kernel
theorem d15_11 : decode prog_63_method_1_code 11 = .ok (.putfield 7, 3) := by decide +kernel
theorem d15_14 : decode prog_63_method_1_code 14 = .ok (.aload_n 0, 1) := by decide +kernel
theorem d15_15 : decode prog_63_method_1_code 15 = .ok (.iload_n 1, 1) := by decide +kernel
theorem d15_16 : decode prog_63_method_1_code 16 = .ok (.newarray .long, 2) := by decide +kernel
theorem d15_18 : decode prog_63_method_1_code 18 = .ok (.putfield 13, 3) := by decide +kernel
theorem d15_21 : decode prog_63_method_1_code 21 = .ok (.aload_n 0, 1) := by decide +kernel
theorem d15_22 : decode prog_63_method_1_code 22 = .ok (.iload_n 1, 1) := by decide +kernel
theorem d15_23 : decode prog_63_method_1_code 23 = .ok (.anewarray 17, 3) := by decide +kernel
theorem d15_26 : decode prog_63_method_1_code 26 = .ok (.putfield 19, 3) := by decide +kernel
theorem d15_29 : decode prog_63_method_1_code 29 = .ok (.return_, 1) := by decide +kernel
theorem ef_rs_1 (a : Addr) (m : MethodId) : entryFrame m #[(.ref a), (.int 1)] 2 = mkF m 0 #[.val (.ref a), .val (.int 1)] [] := by first | (simp [entryFrame, mkF, argsToLocals, Value.category, maxLocals]; done) | rfl
theorem ef_rm14 (a : Addr) (u : Addr) (t : Addr) (kt : ClassId) (cs : List Int32) (m : MethodId) : entryFrame m #[(.ref a), (.ref u)] 2 = mkF m 0 #[.val (.ref a), .val (.ref u)] [] := by first | (simp [entryFrame, mkF, argsToLocals, Value.category, maxLocals]; done) | rfl
theorem pn_com_example_ratable_ratable_core_Posted__init___Ljava_lang_String__V : plainFor (⟨"com/example/ratable/ratable/core/Posted", "<init>", "(Ljava/lang/String;)V"⟩ : MethodName) = true := by first | exact plainFor_of_name (by first | (simp [plainName, overriddenIn]; done) | decide +kernel) | decide +kernel
theorem d14_0 : decode prog_62_method_1_code 0 = .ok (.aload_n 0, 1) := by decide +kernel
theorem d14_1 : decode prog_62_method_1_code 1 = .ok (.invokespecial 1, 3) := by decide +kernel
theorem d14_4 : decode prog_62_method_1_code 4 = .ok (.aload_n 0, 1) := by decide +kernel
theorem d14_5 : decode prog_62_method_1_code 5 = .ok (.new 7, 3) := by decide +kernel
theorem d14_8 : decode prog_62_method_1_code 8 = .ok (.dup, 1) := by decide +kernel
theorem d14_9 : decode prog_62_method_1_code 9 = .ok (.iconst 4, 1) := by decide +kernel
theorem d14_10 : decode prog_62_method_1_code 10 = .ok (.invokespecial 9, 3) := by decide +kernel
theorem pd__28I_29V : parseMethodDescriptor "(I)V" = some ⟨[.int], none⟩ := by decide +kernel
theorem d14_13 : decode prog_62_method_1_code 13 = .ok (.putfield 12, 3) := by decide +kernel
theorem d14_16 : decode prog_62_method_1_code 16 = .ok (.aload_n 0, 1) := by decide +kernel
theorem d14_17 : decode prog_62_method_1_code 17 = .ok (.new 7, 3) := by decide +kernel
theorem d14_20 : decode prog_62_method_1_code 20 = .ok (.dup, 1) := by decide +kernel
theorem d14_21 : decode prog_62_method_1_code 21 = .ok (.iconst 1, 1) := by decide +kernel
theorem d14_22 : decode prog_62_method_1_code 22 = .ok (.invokespecial 9, 3) := by decide +kernel
theorem d14_25 : decode prog_62_method_1_code 25 = .ok (.putfield 18, 3) := by decide +kernel
theorem d14_28 : decode prog_62_method_1_code 28 = .ok (.aload_n 0, 1) := by decide +kernel
theorem d14_29 : decode prog_62_method_1_code 29 = .ok (.aload_n 1, 1) := by decide +kernel
theorem d14_30 : decode prog_62_method_1_code 30 = .ok (.putfield 21, 3) := by decide +kernel
theorem d14_33 : decode prog_62_method_1_code 33 = .ok (.aload_n 0, 1) := by decide +kernel
theorem d14_34 : decode prog_62_method_1_code 34 = .ok (.aload_n 1, 1) := by decide +kernel
theorem d14_35 : decode prog_62_method_1_code 35 = .ok (.ifnonnull 7, 3) := by decide +kernel
theorem d14_42 : decode prog_62_method_1_code 42 = .ok (.aload_n 1, 1) := by decide +kernel
theorem d14_43 : decode prog_62_method_1_code 43 = .ok (.invokestatic 25, 3) := by decide +kernel
theorem pd__28Ljava_2flang_2fString_3b_29I : parseMethodDescriptor "(Ljava/lang/String;)I" = some ⟨[(.object "java/lang/String")], some .int⟩ := by decide +kernel
theorem d14_46 : decode prog_62_method_1_code 46 = .ok (.putfield 31, 3) := by decide +kernel
theorem d14_49 : decode prog_62_method_1_code 49 = .ok (.return_, 1) := by decide +kernel
theorem ef_rm7 (a : Addr) (m : MethodId) : entryFrame m #[(.ref a)] 1 = mkF m 0 #[.val (.ref a)] [] := by first | (simp [entryFrame, mkF, argsToLocals, Value.category, maxLocals]; done) | rfl
theorem pn_com_example_ratable_ratable_core_PostedById__init____V : plainFor (⟨"com/example/ratable/ratable/core/PostedById", "<init>", "()V"⟩ : MethodName) = true := by first | exact plainFor_of_name (by first | (simp [plainName, overriddenIn]; done) | decide +kernel) | decide +kernel
theorem d7_0 : decode prog_64_method_1_code 0 = .ok (.aload_n 0, 1) := by decide +kernel
theorem d7_1 : decode prog_64_method_1_code 1 = .ok (.invokespecial 1, 3) := by decide +kernel
theorem d7_4 : decode prog_64_method_1_code 4 = .ok (.aload_n 0, 1) := by decide +kernel
theorem d7_5 : decode prog_64_method_1_code 5 = .ok (.bipush 16, 2) := by decide +kernel
theorem d7_7 : decode prog_64_method_1_code 7 = .ok (.anewarray 9, 3) := by decide +kernel
theorem d7_10 : decode prog_64_method_1_code 10 = .ok (.putfield 11, 3) := by decide +kernel
theorem d7_13 : decode prog_64_method_1_code 13 = .ok (.aload_n 0, 1) := by decide +kernel
theorem d7_14 : decode prog_64_method_1_code 14 = .ok (.bipush 16, 2) := by decide +kernel
theorem d7_16 : decode prog_64_method_1_code 16 = .ok (.anewarray 9, 3) := by decide +kernel
theorem d7_19 : decode prog_64_method_1_code 19 = .ok (.putfield 15, 3) := by decide +kernel
theorem d7_22 : decode prog_64_method_1_code 22 = .ok (.return_, 1) := by decide +kernel
theorem ef_rm17 (q : Addr) (bk : Addr) (u : Addr) (kb : ClassId) (vs : List Value) (cs : List Int32) (m : MethodId) : entryFrame m #[(.ref q), (.ref bk)] 3 = mkF m 0 #[.val (.ref q), .val (.ref bk), .unset] [] := by first | (simp [entryFrame, mkF, argsToLocals, Value.category, maxLocals]; done) | rfl
theorem pn_com_example_ratable_ratable_core_PostedById_chain__Lcom_example_ratable_ratable_core_Posted__Lcom_example_ratable_ratable_core_Posted__V : plainFor (⟨"com/example/ratable/ratable/core/PostedById", "chain", "(Lcom/example/ratable/ratable/core/Posted;[Lcom/example/ratable/ratable/core/Posted;)V"⟩ : MethodName) = true := by first | exact plainFor_of_name (by first | (simp [plainName, overriddenIn]; done) | decide +kernel) | decide +kernel
theorem d17_0 : decode prog_64_method_10_code 0 = .ok (.aload_n 0, 1) := by decide +kernel
theorem d17_1 : decode prog_64_method_10_code 1 = .ok (.getfield 26, 3) := by decide +kernel
theorem d17_4 : decode prog_64_method_10_code 4 = .ok (.aload_n 1, 1) := by decide +kernel
theorem d17_5 : decode prog_64_method_10_code 5 = .ok (.arraylength, 1) := by decide +kernel
theorem d17_6 : decode prog_64_method_10_code 6 = .ok (.iconst 1, 1) := by decide +kernel
theorem d17_7 : decode prog_64_method_10_code 7 = .ok (.isub, 1) := by decide +kernel
theorem d17_8 : decode prog_64_method_10_code 8 = .ok (.iand, 1) := by decide +kernel
theorem d17_9 : decode prog_64_method_10_code 9 = .ok (.istore_n 2, 1) := by decide +kernel
theorem d17_10 : decode prog_64_method_10_code 10 = .ok (.aload_n 0, 1) := by decide +kernel
theorem d17_11 : decode prog_64_method_10_code 11 = .ok (.aload_n 1, 1) := by decide +kernel
theorem d17_12 : decode prog_64_method_10_code 12 = .ok (.iload_n 2, 1) := by decide +kernel
theorem d17_13 : decode prog_64_method_10_code 13 = .ok (.aaload, 1) := by decide +kernel
theorem d17_14 : decode prog_64_method_10_code 14 = .ok (.putfield 38, 3) := by decide +kernel
theorem d17_17 : decode prog_64_method_10_code 17 = .ok (.aload_n 1, 1) := by decide +kernel
theorem d17_18 : decode prog_64_method_10_code 18 = .ok (.iload_n 2, 1) := by decide +kernel
theorem d17_19 : decode prog_64_method_10_code 19 = .ok (.aload_n 0, 1) := by decide +kernel
theorem d17_20 : decode prog_64_method_10_code 20 = .ok (.aastore, 1) := by decide +kernel
theorem d17_21 : decode prog_64_method_10_code 21 = .ok (.return_, 1) := by decide +kernel
theorem ef_rp_put0 (a : Addr) (q : Addr) (bk : Addr) (io : Addr) (u : Addr) (kb : ClassId) (ki : ClassId) (vs : List Value) (cs : List Int32) (m : MethodId) : entryFrame m #[(.ref a), (.ref q)] 2 = mkF m 0 #[.val (.ref a), .val (.ref q)] [] := by first | (simp [entryFrame, mkF, argsToLocals, Value.category, maxLocals]; done) | rfl
theorem pn_com_example_ratable_ratable_core_PostedById_put__Lcom_example_ratable_ratable_core_Posted__V : plainFor (⟨"com/example/ratable/ratable/core/PostedById", "put", "(Lcom/example/ratable/ratable/core/Posted;)V"⟩ : MethodName) = true := by first | exact plainFor_of_name (by first | (simp [plainName, overriddenIn]; done) | decide +kernel) | decide +kernel
theorem d16_0 : decode prog_64_method_8_code 0 = .ok (.aload_n 0, 1) := by decide +kernel
theorem d16_1 : decode prog_64_method_8_code 1 = .ok (.getfield 18, 3) := by decide +kernel
theorem d16_4 : decode prog_64_method_8_code 4 = .ok (.aload_n 0, 1) := by decide +kernel
theorem d16_5 : decode prog_64_method_8_code 5 = .ok (.getfield 15, 3) := by decide +kernel
theorem d16_8 : decode prog_64_method_8_code 8 = .ok (.arraylength, 1) := by decide +kernel
theorem d16_9 : decode prog_64_method_8_code 9 = .ok (.if_icmp .ne 23, 3) := by decide +kernel
theorem d16_32 : decode prog_64_method_8_code 32 = .ok (.aload_n 0, 1) := by decide +kernel
theorem d16_33 : decode prog_64_method_8_code 33 = .ok (.getfield 15, 3) := by decide +kernel
theorem d16_36 : decode prog_64_method_8_code 36 = .ok (.aload_n 0, 1) := by decide +kernel
theorem d16_37 : decode prog_64_method_8_code 37 = .ok (.dup, 1) := by decide +kernel
theorem d16_38 : decode prog_64_method_8_code 38 = .ok (.getfield 18, 3) := by decide +kernel
theorem d16_41 : decode prog_64_method_8_code 41 = .ok (.dup_x1, 1) := by decide +kernel
theorem d16_42 : decode prog_64_method_8_code 42 = .ok (.iconst 1, 1) := by decide +kernel
theorem d16_43 : decode prog_64_method_8_code 43 = .ok (.iadd, 1) := by decide +kernel
theorem d16_44 : decode prog_64_method_8_code 44 = .ok (.putfield 18, 3) := by decide +kernel
theorem d16_47 : decode prog_64_method_8_code 47 = .ok (.aload_n 1, 1) := by decide +kernel
theorem d16_48 : decode prog_64_method_8_code 48 = .ok (.aastore, 1) := by decide +kernel
theorem d16_49 : decode prog_64_method_8_code 49 = .ok (.aload_n 0, 1) := by decide +kernel
theorem d16_50 : decode prog_64_method_8_code 50 = .ok (.getfield 18, 3) := by decide +kernel
theorem d16_53 : decode prog_64_method_8_code 53 = .ok (.aload_n 0, 1) := by decide +kernel
theorem d16_54 : decode prog_64_method_8_code 54 = .ok (.getfield 11, 3) := by decide +kernel
theorem d16_57 : decode prog_64_method_8_code 57 = .ok (.arraylength, 1) := by decide +kernel
theorem d16_58 : decode prog_64_method_8_code 58 = .ok (.iconst 4, 1) := by decide +kernel
theorem d16_59 : decode prog_64_method_8_code 59 = .ok (.idiv, 1) := by decide +kernel
theorem d16_60 : decode prog_64_method_8_code 60 = .ok (.iconst 3, 1) := by decide +kernel
theorem d16_61 : decode prog_64_method_8_code 61 = .ok (.imul, 1) := by decide +kernel
theorem d16_62 : decode prog_64_method_8_code 62 = .ok (.if_icmp .le 17, 3) := by decide +kernel
theorem d16_79 : decode prog_64_method_8_code 79 = .ok (.aload_n 1, 1) := by decide +kernel
theorem d16_80 : decode prog_64_method_8_code 80 = .ok (.aload_n 0, 1) := by decide +kernel
theorem d16_81 : decode prog_64_method_8_code 81 = .ok (.getfield 11, 3) := by decide +kernel
theorem d16_84 : decode prog_64_method_8_code 84 = .ok (.invokestatic 79, 3) := by decide +kernel
theorem pd__28Lcom_2fexample_2fratable_2fratable_2fcore_2fPosted_3b_5bLcom_2fexample_2fratable_2fratable_2fcore_2fPosted_3b_29V : parseMethodDescriptor "(Lcom/example/ratable/ratable/core/Posted;[Lcom/example/ratable/ratable/core/Posted;)V" = some ⟨[(.object "com/example/ratable/ratable/core/Posted"), (.array (.object "com/example/ratable/ratable/core/Posted"))], none⟩ := by decide +kernel
theorem d16_87 : decode prog_64_method_8_code 87 = .ok (.return_, 1) := by decide +kernel
theorem ef_rp_put1 (a : Addr) (q : Addr) (bk : Addr) (io : Addr) (u : Addr) (kb : ClassId) (ki : ClassId) (vs : List Value) (cs : List Int32) (i0 : Addr) (m : MethodId) : entryFrame m #[(.ref a), (.ref q)] 2 = mkF m 0 #[.val (.ref a), .val (.ref q)] [] := by first | (simp [entryFrame, mkF, argsToLocals, Value.category, maxLocals]; done) | rfl
theorem ef_rp_put2 (a : Addr) (q : Addr) (bk : Addr) (io : Addr) (u : Addr) (kb : ClassId) (ki : ClassId) (vs : List Value) (cs : List Int32) (i0 : Addr) (i1 : Addr) (m : MethodId) : entryFrame m #[(.ref a), (.ref q)] 2 = mkF m 0 #[.val (.ref a), .val (.ref q)] [] := by first | (simp [entryFrame, mkF, argsToLocals, Value.category, maxLocals]; done) | rfl
theorem ef_rg_0n (a : Addr) (bk : Addr) (kb : ClassId) (u : Addr) (t : Addr) (kt : ClassId) (cs : List Int32) (m : MethodId) : entryFrame m #[(.ref a), (.ref u)] 4 = mkF m 0 #[.val (.ref a), .val (.ref u), .unset, .unset] [] := by first | (simp [entryFrame, mkF, argsToLocals, Value.category, maxLocals]; done) | rfl
theorem pn_com_example_ratable_ratable_core_PostedById_get__Ljava_lang_String__Lcom_example_ratable_ratable_core_Posted_ : plainFor (⟨"com/example/ratable/ratable/core/PostedById", "get", "(Ljava/lang/String;)Lcom/example/ratable/ratable/core/Posted;"⟩ : MethodName) = true := by first | exact plainFor_of_name (by first | (simp [plainName, overriddenIn]; done) | decide +kernel) | decide +kernel
theorem d9_0 : decode prog_64_method_3_code 0 = .ok (.aload_n 1, 1) := by decide +kernel
theorem d9_1 : decode prog_64_method_3_code 1 = .ok (.invokestatic 22, 3) := by decide +kernel
theorem d9_4 : decode prog_64_method_3_code 4 = .ok (.istore_n 2, 1) := by decide +kernel
theorem d9_5 : decode prog_64_method_3_code 5 = .ok (.aload_n 0, 1) := by decide +kernel
theorem d9_6 : decode prog_64_method_3_code 6 = .ok (.getfield 11, 3) := by decide +kernel
theorem d9_9 : decode prog_64_method_3_code 9 = .ok (.iload_n 2, 1) := by decide +kernel
theorem d9_10 : decode prog_64_method_3_code 10 = .ok (.aload_n 0, 1) := by decide +kernel
theorem d9_11 : decode prog_64_method_3_code 11 = .ok (.getfield 11, 3) := by decide +kernel
theorem d9_14 : decode prog_64_method_3_code 14 = .ok (.arraylength, 1) := by decide +kernel
theorem d9_15 : decode prog_64_method_3_code 15 = .ok (.iconst 1, 1) := by decide +kernel
theorem d9_16 : decode prog_64_method_3_code 16 = .ok (.isub, 1) := by decide +kernel
theorem d9_17 : decode prog_64_method_3_code 17 = .ok (.iand, 1) := by decide +kernel
theorem d9_18 : decode prog_64_method_3_code 18 = .ok (.aaload, 1) := by decide +kernel
theorem d9_19 : decode prog_64_method_3_code 19 = .ok (.astore_n 3, 1) := by decide +kernel
theorem d9_20 : decode prog_64_method_3_code 20 = .ok (.aload_n 3, 1) := by decide +kernel
theorem d9_21 : decode prog_64_method_3_code 21 = .ok (.ifnull 32, 3) := by decide +kernel
theorem d9_53 : decode prog_64_method_3_code 53 = .ok (.aconst_null, 1) := by decide +kernel
theorem d9_54 : decode prog_64_method_3_code 54 = .ok (.areturn, 1) := by decide +kernel
theorem ef_rg_1f0 (a : Addr) (bk : Addr) (kb : ClassId) (u : Addr) (t : Addr) (kt : ClassId) (p0 : Addr) (u0 : Addr) (t0 : Addr) (k0 : ClassId) (c0 : List Int32) (m : MethodId) : entryFrame m #[(.ref a), (.ref u)] 4 = mkF m 0 #[.val (.ref a), .val (.ref u), .unset, .unset] [] := by first | (simp [entryFrame, mkF, argsToLocals, Value.category, maxLocals]; done) | rfl
theorem d9_24 : decode prog_64_method_3_code 24 = .ok (.aload_n 3, 1) := by decide +kernel
theorem d9_25 : decode prog_64_method_3_code 25 = .ok (.getfield 26, 3) := by decide +kernel
theorem d9_28 : decode prog_64_method_3_code 28 = .ok (.iload_n 2, 1) := by decide +kernel
theorem d9_29 : decode prog_64_method_3_code 29 = .ok (.if_icmp .ne 16, 3) := by decide +kernel
theorem d9_32 : decode prog_64_method_3_code 32 = .ok (.aload_n 3, 1) := by decide +kernel
theorem d9_33 : decode prog_64_method_3_code 33 = .ok (.getfield 28, 3) := by decide +kernel
theorem d9_36 : decode prog_64_method_3_code 36 = .ok (.aload_n 1, 1) := by decide +kernel
theorem d9_37 : decode prog_64_method_3_code 37 = .ok (.invokevirtual 32, 3) := by decide +kernel
theorem own_wE {Z : State} {a0 : Array Value} (hw : ∀ d ∈ tables_1, d.before a0 Z = true) : ∀ d ∈ StrChars.Road.wordsEq, d.before a0 Z = true := fun d hd => hw d ((by decide +kernel : ∀ d ∈ StrChars.Road.wordsEq, d ∈ tables_1) d hd)
theorem d9_40 : decode prog_64_method_3_code 40 = .ok (.ifCond .eq 5, 3) := by decide +kernel
theorem d9_43 : decode prog_64_method_3_code 43 = .ok (.aload_n 3, 1) := by decide +kernel
theorem d9_44 : decode prog_64_method_3_code 44 = .ok (.areturn, 1) := by decide +kernel
theorem ef_rg_1n (a : Addr) (bk : Addr) (kb : ClassId) (u : Addr) (t : Addr) (kt : ClassId) (cs : List Int32) (p0 : Addr) (u0 : Addr) (t0 : Addr) (k0 : ClassId) (c0 : List Int32) (m : MethodId) : entryFrame m #[(.ref a), (.ref u)] 4 = mkF m 0 #[.val (.ref a), .val (.ref u), .unset, .unset] [] := by first | (simp [entryFrame, mkF, argsToLocals, Value.category, maxLocals]; done) | rfl
theorem d9_45 : decode prog_64_method_3_code 45 = .ok (.aload_n 3, 1) := by decide +kernel
theorem d9_46 : decode prog_64_method_3_code 46 = .ok (.getfield 38, 3) := by decide +kernel
theorem d9_49 : decode prog_64_method_3_code 49 = .ok (.astore_n 3, 1) := by decide +kernel
theorem d9_50 : decode prog_64_method_3_code 50 = .ok (.goto (-30), 3) := by decide +kernel
theorem ef_rg_2f0 (a : Addr) (bk : Addr) (kb : ClassId) (u : Addr) (t : Addr) (kt : ClassId) (p0 : Addr) (u0 : Addr) (t0 : Addr) (k0 : ClassId) (c0 : List Int32) (p1 : Addr) (u1 : Addr) (t1 : Addr) (k1 : ClassId) (c1 : List Int32) (m : MethodId) : entryFrame m #[(.ref a), (.ref u)] 4 = mkF m 0 #[.val (.ref a), .val (.ref u), .unset, .unset] [] := by first | (simp [entryFrame, mkF, argsToLocals, Value.category, maxLocals]; done) | rfl
theorem ef_rg_2f1 (a : Addr) (bk : Addr) (kb : ClassId) (u : Addr) (t : Addr) (kt : ClassId) (p0 : Addr) (u0 : Addr) (t0 : Addr) (k0 : ClassId) (c0 : List Int32) (p1 : Addr) (u1 : Addr) (t1 : Addr) (k1 : ClassId) (c1 : List Int32) (m : MethodId) : entryFrame m #[(.ref a), (.ref u)] 4 = mkF m 0 #[.val (.ref a), .val (.ref u), .unset, .unset] [] := by first | (simp [entryFrame, mkF, argsToLocals, Value.category, maxLocals]; done) | rfl
theorem ef_rg_2n (a : Addr) (bk : Addr) (kb : ClassId) (u : Addr) (t : Addr) (kt : ClassId) (cs : List Int32) (p0 : Addr) (u0 : Addr) (t0 : Addr) (k0 : ClassId) (c0 : List Int32) (p1 : Addr) (u1 : Addr) (t1 : Addr) (k1 : ClassId) (c1 : List Int32) (m : MethodId) : entryFrame m #[(.ref a), (.ref u)] 4 = mkF m 0 #[.val (.ref a), .val (.ref u), .unset, .unset] [] := by first | (simp [entryFrame, mkF, argsToLocals, Value.category, maxLocals]; done) | rfl
theorem ef_ro_0n (a : Addr) (bk : Addr) (io : Addr) (kb : ClassId) (ki : ClassId) (u : Addr) (t : Addr) (kt : ClassId) (cs : List Int32) (m : MethodId) : entryFrame m #[(.ref a), (.ref u)] 3 = mkF m 0 #[.val (.ref a), .val (.ref u), .unset] [] := by first | (simp [entryFrame, mkF, argsToLocals, Value.category, maxLocals]; done) | rfl
theorem pn_com_example_ratable_ratable_core_PostedById_open__Ljava_lang_String__Lcom_example_ratable_ratable_core_Posted_ : plainFor (⟨"com/example/ratable/ratable/core/PostedById", "open", "(Ljava/lang/String;)Lcom/example/ratable/ratable/core/Posted;"⟩ : MethodName) = true := by first | exact plainFor_of_name (by first | (simp [plainName, overriddenIn]; done) | decide +kernel) | decide +kernel
theorem d8_0 : decode prog_64_method_4_code 0 = .ok (.aload_n 0, 1) := by decide +kernel
theorem d8_1 : decode prog_64_method_4_code 1 = .ok (.aload_n 1, 1) := by decide +kernel
theorem d8_2 : decode prog_64_method_4_code 2 = .ok (.invokevirtual 42, 3) := by decide +kernel
theorem pd__28Ljava_2flang_2fString_3b_29Lcom_2fexample_2fratable_2fratable_2fcore_2fPosted_3b : parseMethodDescriptor "(Ljava/lang/String;)Lcom/example/ratable/ratable/core/Posted;" = some ⟨[(.object "java/lang/String")], some (.object "com/example/ratable/ratable/core/Posted")⟩ := by decide +kernel
theorem d8_5 : decode prog_64_method_4_code 5 = .ok (.astore_n 2, 1) := by decide +kernel
theorem d8_6 : decode prog_64_method_4_code 6 = .ok (.aload_n 2, 1) := by decide +kernel
theorem d8_7 : decode prog_64_method_4_code 7 = .ok (.ifnonnull 17, 3) := by decide +kernel
theorem d8_10 : decode prog_64_method_4_code 10 = .ok (.new 9, 3) := by decide +kernel
theorem d8_13 : decode prog_64_method_4_code 13 = .ok (.dup, 1) := by decide +kernel
theorem d8_14 : decode prog_64_method_4_code 14 = .ok (.aload_n 1, 1) := by decide +kernel
theorem d8_15 : decode prog_64_method_4_code 15 = .ok (.invokespecial 46, 3) := by decide +kernel
theorem pd__28Ljava_2flang_2fString_3b_29V : parseMethodDescriptor "(Ljava/lang/String;)V" = some ⟨[(.object "java/lang/String")], none⟩ := by decide +kernel
theorem d8_18 : decode prog_64_method_4_code 18 = .ok (.astore_n 2, 1) := by decide +kernel
theorem d8_19 : decode prog_64_method_4_code 19 = .ok (.aload_n 0, 1) := by decide +kernel
theorem d8_20 : decode prog_64_method_4_code 20 = .ok (.aload_n 2, 1) := by decide +kernel
theorem d8_21 : decode prog_64_method_4_code 21 = .ok (.invokevirtual 49, 3) := by decide +kernel
theorem pd__28Lcom_2fexample_2fratable_2fratable_2fcore_2fPosted_3b_29V : parseMethodDescriptor "(Lcom/example/ratable/ratable/core/Posted;)V" = some ⟨[(.object "com/example/ratable/ratable/core/Posted")], none⟩ := by decide +kernel
theorem d8_24 : decode prog_64_method_4_code 24 = .ok (.aload_n 2, 1) := by decide +kernel
theorem d8_25 : decode prog_64_method_4_code 25 = .ok (.areturn, 1) := by decide +kernel
theorem ef_ro_1f0 (a : Addr) (bk : Addr) (io : Addr) (kb : ClassId) (ki : ClassId) (u : Addr) (t : Addr) (kt : ClassId) (p0 : Addr) (u0 : Addr) (t0 : Addr) (k0 : ClassId) (c0 : List Int32) (m : MethodId) : entryFrame m #[(.ref a), (.ref u)] 3 = mkF m 0 #[.val (.ref a), .val (.ref u), .unset] [] := by first | (simp [entryFrame, mkF, argsToLocals, Value.category, maxLocals]; done) | rfl
theorem ef_ro_1n (a : Addr) (bk : Addr) (io : Addr) (kb : ClassId) (ki : ClassId) (u : Addr) (t : Addr) (kt : ClassId) (cs : List Int32) (p0 : Addr) (u0 : Addr) (t0 : Addr) (k0 : ClassId) (c0 : List Int32) (m : MethodId) : entryFrame m #[(.ref a), (.ref u)] 3 = mkF m 0 #[.val (.ref a), .val (.ref u), .unset] [] := by first | (simp [entryFrame, mkF, argsToLocals, Value.category, maxLocals]; done) | rfl
theorem ef_ro_2f0 (a : Addr) (bk : Addr) (io : Addr) (kb : ClassId) (ki : ClassId) (u : Addr) (t : Addr) (kt : ClassId) (p0 : Addr) (u0 : Addr) (t0 : Addr) (k0 : ClassId) (c0 : List Int32) (p1 : Addr) (u1 : Addr) (t1 : Addr) (k1 : ClassId) (c1 : List Int32) (m : MethodId) : entryFrame m #[(.ref a), (.ref u)] 3 = mkF m 0 #[.val (.ref a), .val (.ref u), .unset] [] := by first | (simp [entryFrame, mkF, argsToLocals, Value.category, maxLocals]; done) | rfl
theorem ef_ro_2f1 (a : Addr) (bk : Addr) (io : Addr) (kb : ClassId) (ki : ClassId) (u : Addr) (t : Addr) (kt : ClassId) (p0 : Addr) (u0 : Addr) (t0 : Addr) (k0 : ClassId) (c0 : List Int32) (p1 : Addr) (u1 : Addr) (t1 : Addr) (k1 : ClassId) (c1 : List Int32) (m : MethodId) : entryFrame m #[(.ref a), (.ref u)] 3 = mkF m 0 #[.val (.ref a), .val (.ref u), .unset] [] := by first | (simp [entryFrame, mkF, argsToLocals, Value.category, maxLocals]; done) | rfl
theorem ef_ro_2n (a : Addr) (bk : Addr) (io : Addr) (kb : ClassId) (ki : ClassId) (u : Addr) (t : Addr) (kt : ClassId) (cs : List Int32) (p0 : Addr) (u0 : Addr) (t0 : Addr) (k0 : ClassId) (c0 : List Int32) (p1 : Addr) (u1 : Addr) (t1 : Addr) (k1 : ClassId) (c1 : List Int32) (m : MethodId) : entryFrame m #[(.ref a), (.ref u)] 3 = mkF m 0 #[.val (.ref a), .val (.ref u), .unset] [] := by first | (simp [entryFrame, mkF, argsToLocals, Value.category, maxLocals]; done) | rfl
theorem ef_rm18 (a : Addr) (x : Int32) (m : MethodId) : entryFrame m #[(.ref a)] 1 = mkF m 0 #[.val (.ref a)] [] := by first | (simp [entryFrame, mkF, argsToLocals, Value.category, maxLocals]; done) | rfl
theorem pn_com_example_ratable_ratable_core_PostedById_size___I : plainFor (⟨"com/example/ratable/ratable/core/PostedById", "size", "()I"⟩ : MethodName) = true := by first | exact plainFor_of_name (by first | (simp [plainName, overriddenIn]; done) | decide +kernel) | decide +kernel
theorem d18_0 : decode prog_64_method_2_code 0 = .ok (.aload_n 0, 1) := by decide +kernel
theorem d18_1 : decode prog_64_method_2_code 1 = .ok (.getfield 18, 3) := by decide +kernel
theorem d18_4 : decode prog_64_method_2_code 4 = .ok (.ireturn, 1) := by decide +kernel
theorem ef_rm21 (x : Int32) (y : Int32) (m : MethodId) : entryFrame m #[(.int x), (.int y), .null] 3 = mkF m 0 #[.val (.int x), .val (.int y), .val .null] [] := by first | (simp [entryFrame, mkF, argsToLocals, Value.category, maxLocals]; done) | rfl
theorem pn_jdk_internal_util_Preconditions_checkIndex__IILjava_util_function_BiFunction__I : plainFor (⟨"jdk/internal/util/Preconditions", "checkIndex", "(IILjava/util/function/BiFunction;)I"⟩ : MethodName) = true := by first | exact plainFor_of_name (by first | (simp [plainName, overriddenIn]; done) | decide +kernel) | decide +kernel
theorem d21_0 : decode jdk_41_method_11_code 0 = .ok (.iload_n 0, 1) := by decide +kernel
theorem d21_1 : decode jdk_41_method_11_code 1 = .ok (.ifCond .lt 8, 3) := by decide +kernel
theorem d21_4 : decode jdk_41_method_11_code 4 = .ok (.iload_n 0, 1) := by decide +kernel
theorem d21_5 : decode jdk_41_method_11_code 5 = .ok (.iload_n 1, 1) := by decide +kernel
theorem d21_6 : decode jdk_41_method_11_code 6 = .ok (.if_icmp .lt 10, 3) := by decide +kernel
theorem d21_16 : decode jdk_41_method_11_code 16 = .ok (.iload_n 0, 1) := by decide +kernel
theorem d21_17 : decode jdk_41_method_11_code 17 = .ok (.ireturn, 1) := by decide +kernel
theorem ef_rm20 (x : Int32) (y : Int32) (m : MethodId) : entryFrame m #[(.int x), (.int y)] 2 = mkF m 0 #[.val (.int x), .val (.int y)] [] := by first | (simp [entryFrame, mkF, argsToLocals, Value.category, maxLocals]; done) | rfl
theorem pn_java_util_Objects_checkIndex__II_I : plainFor (⟨"java/util/Objects", "checkIndex", "(II)I"⟩ : MethodName) = true := by first | exact plainFor_of_name (by first | (simp [plainName, overriddenIn]; done) | decide +kernel) | decide +kernel
theorem d20_0 : decode jdk_31_method_17_code 0 = .ok (.iload_n 0, 1) := by decide +kernel
theorem d20_1 : decode jdk_31_method_17_code 1 = .ok (.iload_n 1, 1) := by decide +kernel
theorem d20_2 : decode jdk_31_method_17_code 2 = .ok (.aconst_null, 1) := by decide +kernel
theorem d20_3 : decode jdk_31_method_17_code 3 = .ok (.invokestatic 105, 3) := by decide +kernel
theorem pd__28IILjava_2futil_2ffunction_2fBiFunction_3b_29I : parseMethodDescriptor "(IILjava/util/function/BiFunction;)I" = some ⟨[.int, .int, (.object "java/util/function/BiFunction")], some .int⟩ := by decide +kernel
theorem d20_6 : decode jdk_31_method_17_code 6 = .ok (.ireturn, 1) := by decide +kernel
theorem ef_rt_10 (a : Addr) (io : Addr) (ki : ClassId) (p0 : Addr) (m : MethodId) : entryFrame m #[(.ref a), (.int 0)] 2 = mkF m 0 #[.val (.ref a), .val (.int 0)] [] := by first | (simp [entryFrame, mkF, argsToLocals, Value.category, maxLocals]; done) | rfl
theorem pn_com_example_ratable_ratable_core_PostedById_at__I_Lcom_example_ratable_ratable_core_Posted_ : plainFor (⟨"com/example/ratable/ratable/core/PostedById", "at", "(I)Lcom/example/ratable/ratable/core/Posted;"⟩ : MethodName) = true := by first | exact plainFor_of_name (by first | (simp [plainName, overriddenIn]; done) | decide +kernel) | decide +kernel
theorem d19_0 : decode prog_64_method_6_code 0 = .ok (.iload_n 1, 1) := by decide +kernel
theorem d19_1 : decode prog_64_method_6_code 1 = .ok (.aload_n 0, 1) := by decide +kernel
theorem d19_2 : decode prog_64_method_6_code 2 = .ok (.getfield 18, 3) := by decide +kernel
theorem d19_5 : decode prog_64_method_6_code 5 = .ok (.invokestatic 53, 3) := by decide +kernel
theorem pd__28II_29I : parseMethodDescriptor "(II)I" = some ⟨[.int, .int], some .int⟩ := by decide +kernel
theorem d19_8 : decode prog_64_method_6_code 8 = .ok (.pop, 1) := by decide +kernel
theorem d19_9 : decode prog_64_method_6_code 9 = .ok (.aload_n 0, 1) := by decide +kernel
theorem d19_10 : decode prog_64_method_6_code 10 = .ok (.getfield 15, 3) := by decide +kernel
theorem d19_13 : decode prog_64_method_6_code 13 = .ok (.iload_n 1, 1) := by decide +kernel
theorem d19_14 : decode prog_64_method_6_code 14 = .ok (.aaload, 1) := by decide +kernel
theorem d19_15 : decode prog_64_method_6_code 15 = .ok (.areturn, 1) := by decide +kernel
theorem ef_rt_20 (a : Addr) (io : Addr) (ki : ClassId) (p0 : Addr) (p1 : Addr) (m : MethodId) : entryFrame m #[(.ref a), (.int 0)] 2 = mkF m 0 #[.val (.ref a), .val (.int 0)] [] := by first | (simp [entryFrame, mkF, argsToLocals, Value.category, maxLocals]; done) | rfl
theorem ef_rt_21 (a : Addr) (io : Addr) (ki : ClassId) (p0 : Addr) (p1 : Addr) (m : MethodId) : entryFrame m #[(.ref a), (.int 1)] 2 = mkF m 0 #[.val (.ref a), .val (.int 1)] [] := by first | (simp [entryFrame, mkF, argsToLocals, Value.category, maxLocals]; done) | rfl
theorem ef_rt_30 (a : Addr) (io : Addr) (ki : ClassId) (p0 : Addr) (p1 : Addr) (p2 : Addr) (m : MethodId) : entryFrame m #[(.ref a), (.int 0)] 2 = mkF m 0 #[.val (.ref a), .val (.int 0)] [] := by first | (simp [entryFrame, mkF, argsToLocals, Value.category, maxLocals]; done) | rfl
theorem ef_rt_31 (a : Addr) (io : Addr) (ki : ClassId) (p0 : Addr) (p1 : Addr) (p2 : Addr) (m : MethodId) : entryFrame m #[(.ref a), (.int 1)] 2 = mkF m 0 #[.val (.ref a), .val (.int 1)] [] := by first | (simp [entryFrame, mkF, argsToLocals, Value.category, maxLocals]; done) | rfl
theorem ef_rt_32 (a : Addr) (io : Addr) (ki : ClassId) (p0 : Addr) (p1 : Addr) (p2 : Addr) (m : MethodId) : entryFrame m #[(.ref a), (.int 2)] 2 = mkF m 0 #[.val (.ref a), .val (.int 2)] [] := by first | (simp [entryFrame, mkF, argsToLocals, Value.category, maxLocals]; done) | rfl
theorem ef_rm22 (q : Addr) (u : Addr) (t : Addr) (kt : ClassId) (cs : List Int32) (m : MethodId) : entryFrame m #[(.ref q), (.ref q), (.ref u)] 3 = mkF m 0 #[.val (.ref q), .val (.ref q), .val (.ref u)] [] := by first | (simp [entryFrame, mkF, argsToLocals, Value.category, maxLocals]; done) | rfl
theorem pn_com_example_ratable_ratable_core_PostedByIdAtPinLaw_same__Lcom_example_ratable_ratable_core_Posted_Lcom_example_ratable_ratable_core_Posted_Ljava_lang_String__Z : plainFor (⟨"com/example/ratable/ratable/core/PostedByIdAtPinLaw", "same", "(Lcom/example/ratable/ratable/core/Posted;Lcom/example/ratable/ratable/core/Posted;Ljava/lang/String;)Z"⟩ : MethodName) = true := by first | exact plainFor_of_name (by first | (simp [plainName, overriddenIn]; done) | decide +kernel) | decide +kernel
theorem d22_0 : decode method_3_code 0 = .ok (.aload_n 0, 1) := by decide +kernel
theorem d22_1 : decode method_3_code 1 = .ok (.aload_n 1, 1) := by decide +kernel
theorem d22_2 : decode method_3_code 2 = .ok (.if_acmp .ne 18, 3) := by decide +kernel
theorem d22_5 : decode method_3_code 5 = .ok (.aload_n 0, 1) := by decide +kernel
theorem d22_6 : decode method_3_code 6 = .ok (.getfield 40, 3) := by decide +kernel
theorem d22_9 : decode method_3_code 9 = .ok (.aload_n 2, 1) := by decide +kernel
theorem d22_10 : decode method_3_code 10 = .ok (.invokevirtual 24, 3) := by decide +kernel
theorem d22_13 : decode method_3_code 13 = .ok (.ifCond .eq 7, 3) := by decide +kernel
theorem d22_16 : decode method_3_code 16 = .ok (.iconst 1, 1) := by decide +kernel
theorem d22_17 : decode method_3_code 17 = .ok (.goto 4, 3) := by decide +kernel
theorem d22_21 : decode method_3_code 21 = .ok (.ireturn, 1) := by decide +kernel
theorem ef_rm0 (pa : Int32) (pb : Int32) (pc : Int32) (pd : Int32) (m : MethodId) : entryFrame m #[(.int pa), (.int pb), (.int pc), (.int pd)] maxLocals = mkF m 0 #[.val (.int pa), .val (.int pb), .val (.int pc), .val (.int pd), .unset, .unset, .unset, .unset, .unset, .unset, .unset, .unset, .unset, .unset, .unset, .unset] [] := by first | (simp [entryFrame, mkF, argsToLocals, Value.category, maxLocals]; done) | rfl
theorem pn_com_example_ratable_ratable_core_PostedByIdAtPinLaw_law__IIII_Z : plainFor (⟨"com/example/ratable/ratable/core/PostedByIdAtPinLaw", "law", "(IIII)Z"⟩ : MethodName) = true := by first | exact plainFor_of_name (by first | (simp [plainName, overriddenIn]; done) | decide +kernel) | decide +kernel
theorem pd__28I_29Ljava_2flang_2fString_3b : parseMethodDescriptor "(I)Ljava/lang/String;" = some ⟨[.int], some (.object "java/lang/String")⟩ := by decide +kernel
theorem pd__28_29V : parseMethodDescriptor "()V" = some ⟨[], none⟩ := by decide +kernel
theorem pd__28I_29Lcom_2fexample_2fratable_2fratable_2fcore_2fPosted_3b : parseMethodDescriptor "(I)Lcom/example/ratable/ratable/core/Posted;" = some ⟨[.int], some (.object "com/example/ratable/ratable/core/Posted")⟩ := by decide +kernel
theorem pd__28Lcom_2fexample_2fratable_2fratable_2fcore_2fPosted_3bLcom_2fexample_2fratable_2fratable_2fcore_2fPosted_3bLjava_2flang_2fString_3b_29Z : parseMethodDescriptor "(Lcom/example/ratable/ratable/core/Posted;Lcom/example/ratable/ratable/core/Posted;Ljava/lang/String;)Z" = some ⟨[(.object "com/example/ratable/ratable/core/Posted"), (.object "com/example/ratable/ratable/core/Posted"), (.object "java/lang/String")], some .boolean⟩ := by decide +kernel
set_option maxRecDepth 65536
set_option maxHeartbeats 40000000
section OwnWalks
abbrev yN0 : MethodName := ⟨"java/lang/StringLatin1", "canEncode", "(C)Z"⟩
abbrev yN1 : MethodName := ⟨"java/lang/StringLatin1", "toBytes", "(C)[B"⟩
abbrev yN2 : MethodName := ⟨"java/lang/String", "<init>", "([BB)V"⟩
abbrev yN3 : MethodName := ⟨"java/lang/String", "valueOf", "(C)Ljava/lang/String;"⟩
abbrev yN4 : MethodName := ⟨"java/lang/StringUTF16", "compress", "([CI[BII)I"⟩
abbrev yN5 : MethodName := ⟨"java/lang/StringUTF16", "compress", "([CII)[B"⟩
abbrev yN6 : MethodName := ⟨"java/lang/StringUTF16", "coderFromArrayLen", "([BI)B"⟩
abbrev yN7 : MethodName := ⟨"java/lang/String", "<init>", "([CIILjava/lang/Void;)V"⟩
abbrev yN8 : MethodName := ⟨"java/lang/String", "<init>", "([C)V"⟩
abbrev yN9 : MethodName := ⟨"com/example/ratable/ratable/core/PostedByIdAtPinLaw", "id", "(I)Ljava/lang/String;"⟩
abbrev yN10 : MethodName := ⟨"java/lang/String", "isLatin1", "()Z"⟩
abbrev yN11 : MethodName := ⟨"jdk/internal/util/ArraysSupport", "signedHashCode", "(I[BII)I"⟩
abbrev yN12 : MethodName := ⟨"jdk/internal/util/ArraysSupport", "vectorizedHashCode", "(Ljava/lang/Object;IIII)I"⟩
abbrev yN13 : MethodName := ⟨"java/lang/StringLatin1", "hashCode", "([B)I"⟩
abbrev yN14 : MethodName := ⟨"java/lang/String", "hashCode", "()I"⟩
abbrev yN15 : MethodName := ⟨"com/example/ratable/ratable/core/PostedById", "hash", "(Ljava/lang/String;)I"⟩
abbrev yN16 : MethodName := ⟨"com/example/ratable/ratable/core/Posted$Sums", "<init>", "(I)V"⟩
abbrev yN17 : MethodName := ⟨"com/example/ratable/ratable/core/Posted", "<init>", "(Ljava/lang/String;)V"⟩
abbrev yN18 : MethodName := ⟨"com/example/ratable/ratable/core/PostedById", "<init>", "()V"⟩
abbrev yN19 : MethodName := ⟨"com/example/ratable/ratable/core/PostedById", "chain", "(Lcom/example/ratable/ratable/core/Posted;[Lcom/example/ratable/ratable/core/Posted;)V"⟩
abbrev yN20 : MethodName := ⟨"com/example/ratable/ratable/core/PostedById", "put", "(Lcom/example/ratable/ratable/core/Posted;)V"⟩
abbrev yN21 : MethodName := ⟨"com/example/ratable/ratable/core/PostedById", "get", "(Ljava/lang/String;)Lcom/example/ratable/ratable/core/Posted;"⟩
abbrev yN22 : MethodName := ⟨"com/example/ratable/ratable/core/PostedById", "open", "(Ljava/lang/String;)Lcom/example/ratable/ratable/core/Posted;"⟩
abbrev yN23 : MethodName := ⟨"com/example/ratable/ratable/core/PostedById", "size", "()I"⟩
abbrev yN24 : MethodName := ⟨"jdk/internal/util/Preconditions", "checkIndex", "(IILjava/util/function/BiFunction;)I"⟩
abbrev yN25 : MethodName := ⟨"java/util/Objects", "checkIndex", "(II)I"⟩
abbrev yN26 : MethodName := ⟨"com/example/ratable/ratable/core/PostedById", "at", "(I)Lcom/example/ratable/ratable/core/Posted;"⟩
abbrev yN27 : MethodName := ⟨"com/example/ratable/ratable/core/PostedByIdAtPinLaw", "same", "(Lcom/example/ratable/ratable/core/Posted;Lcom/example/ratable/ratable/core/Posted;Ljava/lang/String;)Z"⟩
abbrev OHw (a0 : Array Value) (Z : State) : Prop := ∀ d ∈ tables_1, d.before a0 Z = true
variable (l : Launch) (Z : State) (n0 : Nat) (h0 : Heap) (wc : List Jvm.Cond)
theorem rm3 (a0 : Array Value) (hw : OHw a0 Z) (hWd : OWorld Z a0) (O0 : Old Z n0 h0) (x : Int32) (q0 : ¬ (255 : Int32) < x) :
    OMet l Z own_EL n0 yN0 (Jvm.Cond.code yN0 jdk_43_method_3_code 1 (some .boolean) :: wc) ({ frames := 0, cells := 0, slots := 0, locals := 0 } : Room) #[(.int x)] h0 [] (fun vq hq => vq = some (.int 1)) := by
  refine own_enter #[.val (.int x)] pn_java_lang_StringLatin1_canEncode__C_Z (ef_rm3 x) hWd.1 O0 all0 ?_
  intro p e s m below meth c T0 X0 hnm hret
  refine og_iloadN X0 1 d3_0 rfl rfl ?_
  refine og_sipush X0 4 (255 : Int32) d3_1 rfl rfl ?_
  refine og_icmpN X0 7 d3_4 (XT.ii_gt_f q0) rfl ?_
  refine og_iconst X0 8 (1 : Int32) d3_7 rfl rfl ?_
  refine og_goto X0 12 d3_8 (by decide) (by decide) ?_
  refine own_retZ X0 d3_12 hret rfl (by decide) (by decide) ?_
  exact rfl
theorem rm4 (a0 : Array Value) (hw : OHw a0 Z) (hWd : OWorld Z a0) (O0 : Old Z n0 h0) (x : Int32)  :
    OMet l Z own_EL n0 yN1 (Jvm.Cond.code yN1 jdk_43_method_46_code 1 (some (.array .byte)) :: wc) ({ frames := 0, cells := 1, slots := 1, locals := 0 } : Room) #[(.int x)] h0 [] (fun vq hq => ∃ (r : Addr) (kb : ClassId), vq = some (.ref r) ∧ h0.size ≤ r ∧ Exa Z hq r "[B" ∧ Arv Z hq r kb .byte (1 : Int32) [(.int ((x).toInt8.toInt32))] (.int 0)) := by
  refine own_enter #[.val (.int x)] pn_java_lang_StringLatin1_toBytes__C__B (ef_rm4 x) hWd.1 O0 all0 ?_
  intro p e s m below meth c T0 X0 hnm hret
  refine og_iconst X0 1 (1 : Int32) d4_0 rfl rfl ?_
  refine own_arrE X0 3 (ad := "[B") d4_1 (ow hw 18 rfl) (by decide) (cap := 1) (by decide) (by decide) (by decide) (by decide) (by decide) rfl ?_
  intro T1 h1 b1 kb1 X1 K1 G1 U1 A1 E1
  have f2 : Arv Z h1 b1 kb1 .byte (1 : Int32) [(.int 0)] (.int 0) := A1
  refine og_dup X1 4 d4_3 rfl rfl ?_
  refine og_iconst X1 5 (0 : Int32) d4_4 rfl rfl ?_
  refine og_iloadN X1 6 d4_5 rfl rfl ?_
  refine og_i2b X1 7 d4_6 rfl ?_
  refine own_stB X1 8 d4_7 f2 (own_nbb _) (by decide) (by decide) (i := 0) (by decide) (Nat.le_of_ble_eq_true rfl) (om 0 rfl) rfl ?_
  intro T3 h3 X3 W3 K3 A3
  have f4 : Arv Z h3 b1 kb1 .byte (1 : Int32) [(.int ((x).toInt8.toInt32))] (.int 0) := A3
  have f5 := E1.keep K3
  refine own_retA X3 d4_8 hret rfl rfl (by decide) (by decide) ?_
  exact ⟨b1, kb1, rfl, G1, f5, f4⟩
theorem rm5 (a0 : Array Value) (hw : OHw a0 Z) (hWd : OWorld Z a0) (O0 : Old Z n0 h0) (a : Addr) (b : Addr) (q0 : Exa Z h0 a "java/lang/String") (q1 : Fld Z h0 a "java/lang/String" "value" "[B" .null) (q2 : Fld Z h0 a "java/lang/String" "coder" "B" (.int 0)) (q3 : Fld Z h0 a "java/lang/String" "hash" "I" (.int 0)) (q4 : Fld Z h0 a "java/lang/String" "hashIsZero" "Z" (.int 0)) (g0 : n0 ≤ a ∧ a < h0.size) :
    OMet l Z own_EL n0 yN2 (Jvm.Cond.code yN2 jdk_42_method_151_code 3 none :: wc) ({ frames := 1, cells := 0, slots := 0, locals := 12 } : Room) #[(.ref a), (.ref b), (.int 0)] h0 [a] (fun vq hq => vq = none ∧ Fld Z hq a "java/lang/String" "coder" "B" (.int 0) ∧ Fld Z hq a "java/lang/String" "value" "[B" (.ref b) ∧ Fld Z hq a "java/lang/String" "hash" "I" (.int 0) ∧ Fld Z hq a "java/lang/String" "hashIsZero" "Z" (.int 0)) := by
  refine own_enter #[.val (.ref a), .val (.ref b), .val (.int 0)] pn_java_lang_String__init____BB_V (ef_rm5 a b) hWd.1 O0 (allS g0 all0) ?_
  intro p e s m below meth c T0 X0 hnm hret
  refine og_aloadN X0 1 d5_0 rfl rfl rfl ?_
  refine own_obj0 X0 4 (a := a) d5_1 (ow hw 23 rfl) (ow hw 24 rfl) (ow hw 25 rfl) rfl (W := 0) rfl (by decide) (by decide) rfl ?_
  intro T1 X2
  refine og_aloadN X2 5 d5_4 rfl rfl rfl ?_
  refine og_aloadN X2 6 d5_5 rfl rfl rfl ?_
  refine own_put X2 9 d5_6 (host := "") (Or.inl (ow hw 26 rfl)) Via.refl q1 q0 (Or.inr ⟨(ow hw 27 rfl), rfl, hnm⟩) (ow hw 14 rfl) (ty := (.array .byte)) (by decide) rfl rfl (om 0 rfl) rfl ?_
  intro T3 h3 X3 W3 K3 F3
  have f4 := Fld.other W3 q2 (Or.inr (slot_ne (Or.inr (ow hw 29 rfl)) (Or.inr (ow hw 27 rfl)) (by decide) (t := .byte) (t' := (.array .byte)) (by decide) (by decide)))
  have f5 := Fld.other W3 q3 (Or.inr (slot_ne (Or.inl (ow hw 65 rfl)) (Or.inr (ow hw 27 rfl)) (by decide) (t := .int) (t' := (.array .byte)) (by decide) (by decide)))
  have f6 := Fld.other W3 q4 (Or.inr (slot_ne (Or.inl (ow hw 67 rfl)) (Or.inr (ow hw 27 rfl)) (by decide) (t := .boolean) (t' := (.array .byte)) (by decide) (by decide)))
  refine og_aloadN X3 10 d5_9 rfl rfl rfl ?_
  refine og_iloadN X3 11 d5_10 rfl rfl ?_
  have f7 := q0.keep K3
  refine own_put X3 14 d5_11 (host := "") (Or.inl (ow hw 28 rfl)) Via.refl f4 f7 (Or.inr ⟨(ow hw 29 rfl), rfl, hnm⟩) (ow hw 14 rfl) (ty := .byte) (by decide) rfl rfl (om 0 rfl) rfl ?_
  intro T8 h8 X8 W8 K8 F8
  have f9 := Fld.other W8 F3 (Or.inr (slot_ne (Or.inr (ow hw 27 rfl)) (Or.inr (ow hw 29 rfl)) (by decide) (t := (.array .byte)) (t' := .byte) (by decide) (by decide)))
  have f10 := Fld.other W8 f5 (Or.inr (slot_ne (Or.inl (ow hw 65 rfl)) (Or.inr (ow hw 29 rfl)) (by decide) (t := .int) (t' := .byte) (by decide) (by decide)))
  have f11 := Fld.other W8 f6 (Or.inr (slot_ne (Or.inl (ow hw 67 rfl)) (Or.inr (ow hw 29 rfl)) (by decide) (t := .boolean) (t' := .byte) (by decide) (by decide)))
  refine own_retV X8 d5_14 hret (by decide) (by decide) ?_
  exact ⟨rfl, F8, f9, f10, f11⟩
theorem rm2 (a0 : Array Value) (hw : OHw a0 Z) (hWd : OWorld Z a0) (O0 : Old Z n0 h0) (x : Int32) (q0 : ¬ (255 : Int32) < x) :
    OMet l Z own_EL n0 yN3 (Jvm.Cond.code yN3 jdk_42_method_139_code 1 (some (.object "java/lang/String")) :: wc) ({ frames := 2, cells := 2, slots := 5, locals := 27 } : Room) #[(.int x)] h0 [] (fun vq hq => ∃ (r : Addr) (t : Addr) (kt : ClassId), vq = some (.ref r) ∧ h0.size ≤ r ∧ Exa Z hq r "java/lang/String" ∧ Fld Z hq r "java/lang/String" "coder" "B" (.int 0) ∧ Fld Z hq r "java/lang/String" "value" "[B" (.ref t) ∧ Fld Z hq r "java/lang/String" "hash" "I" (.int 0) ∧ Fld Z hq r "java/lang/String" "hashIsZero" "Z" (.int 0) ∧ Exa Z hq t "[B" ∧ Arv Z hq t kt .byte (1 : Int32) [(.int ((x).toInt8.toInt32))] (.int 0)) := by
  refine own_enter #[.val (.int x)] pn_java_lang_String_valueOf__C_Ljava_lang_String_ (ef_rm2 x) hWd.1 O0 all0 ?_
  intro p e s m below meth c T0 X0 hnm hret
  refine own_getS X0 3 d2_0 (host := "") (Or.inl (ow hw 8 rfl)) Via.refl hWd.2.1 rfl ?_
  intro T1 X2
  refine og_ifN X2 6 d2_3 (XT.i0_eq_f hWd.2.2) rfl ?_
  refine og_iloadN X2 7 d2_6 rfl rfl ?_
  refine own_stat X2 10 (argsL := [(.int x)]) (rest := []) d2_7 (rm3 l Z n0 h0 [] a0 hw hWd X2.old x q0 ) (ow hw 9 rfl) (ow hw 10 rfl) (ow hw 11 rfl) (ow hw 12 rfl) (by decide) (lenOf pd__28C_29Z rfl) rfl rfl rfl (W := 0) rfl (by decide) (by decide) (by decide) (by decide) all0 rfl ?_
  intro T3 h3 v3 X3 K3 hQ3
  obtain rfl := hQ3
  show OGo _ _ _ _ T3 (mkF m 10 #[.val (.int x)] [(.int 1)])
  refine og_ifN X3 13 d2_10 (XT.i0_eq_f (by decide)) rfl ?_
  refine own_new X3 16 d2_13 (ow hw 13 rfl) (ow hw 14 rfl) (ow hw 6 rfl) (by decide) (by decide) rfl ?_
  intro T4 h4 b4 X4 K4 G4 U4 E4 D4
  have f5 : Fld Z h4 b4 "java/lang/String" "value" "[B" .null := D4 (Or.inr (ow hw 27 rfl)) (ty := (.array .byte)) (by decide)
  have f6 : Fld Z h4 b4 "java/lang/String" "coder" "B" (.int 0) := D4 (Or.inr (ow hw 29 rfl)) (ty := .byte) (by decide)
  have f7 : Fld Z h4 b4 "java/lang/String" "hash" "I" (.int 0) := D4 (Or.inl (ow hw 65 rfl)) (ty := .int) (by decide)
  have f8 : Fld Z h4 b4 "java/lang/String" "hashIsZero" "Z" (.int 0) := D4 (Or.inl (ow hw 67 rfl)) (ty := .boolean) (by decide)
  refine og_dup X4 17 d2_16 rfl rfl ?_
  refine og_iloadN X4 18 d2_17 rfl rfl ?_
  refine own_stat X4 21 (argsL := [(.int x)]) (rest := [(.ref b4), (.ref b4)]) d2_18 (rm4 l Z n0 h4 [] a0 hw hWd X4.old x  ) (ow hw 15 rfl) (ow hw 16 rfl) (ow hw 11 rfl) (ow hw 17 rfl) (by decide) (lenOf pd__28C_29_5bB rfl) rfl rfl rfl (W := 2) rfl (by decide) (by decide) (by decide) (by decide) all0 rfl ?_
  intro T9 h9 v9 X9 K9 hQ9
  obtain ⟨r9, kb9, rfl, ge_r9, f10, f11⟩ := hQ9
  show OGo _ _ _ _ T9 (mkF m 21 #[.val (.int x)] [(.ref r9), (.ref b4), (.ref b4)])
  refine og_iconst X9 22 (0 : Int32) d2_21 rfl rfl ?_
  have f12 := E4.keep K9
  have f13 := f5.keep K9 nin0
  have f14 := f6.keep K9 nin0
  have f15 := f7.keep K9 nin0
  have f16 := f8.keep K9 nin0
  refine own_spec X9 25 (a := b4) (argsL := [(.ref r9), (.int 0)]) (rest := [(.ref b4)]) d2_22 rfl (rm5 l Z n0 h9 [] a0 hw hWd X9.old b4 r9 f12 f13 f14 f15 f16 (own_svb X9 (om 0 rfl))) (ow hw 19 rfl) (ow hw 20 rfl) (ow hw 6 rfl) (ow hw 22 rfl) (by decide) (lenOf pd__28_5bBB_29V rfl) rfl rfl rfl (W := 1) rfl (by decide) (by decide) (by decide) (by decide) (allS (om 0 rfl) all0) rfl ?_
  intro T17 h17 v17 X17 K17 hQ17
  obtain ⟨rfl, f18, f19, f20, f21⟩ := hQ17
  show OGo _ _ _ _ T17 (mkF m 25 #[.val (.int x)] [(.ref b4)])
  have f22 := f12.keep K17
  have f23 := f10.keep K17
  have f24 := f11.keep K17 (ninS (Nat.ne_of_gt (Nat.lt_of_lt_of_le U4 ge_r9)) nin0)
  refine own_retA X17 d2_25 hret rfl rfl (by decide) (by decide) ?_
  exact ⟨b4, r9, kb9, rfl, (Nat.le_trans K3.1 G4), f22, f18, f19, f20, f21, f23, f24⟩
theorem rm28 (a0 : Array Value) (hw : OHw a0 Z) (hWd : OWorld Z a0) (O0 : Old Z n0 h0) (b : Addr) (d : Addr) (kb : ClassId) (kd : ClassId) (x0 : Int32) (x1 : Int32) (q0 : Arv Z h0 b kb .char (2 : Int32) [(.int x0), (.int x1)] (.int 0)) (q1 : Arv Z h0 d kd .byte (2 : Int32) [(.int 0), (.int 0)] (.int 0)) (q2 : ¬ (255 : Int32) < x0) (q3 : ¬ (255 : Int32) < x1) (q4 : b ≠ d) (g0 : n0 ≤ d ∧ d < h0.size) :
    OMet l Z own_EL n0 yN4 (Jvm.Cond.code yN4 jdk_52_method_21_code 7 (some .int) :: wc) ({ frames := 0, cells := 0, slots := 0, locals := 0 } : Room) #[(.ref b), (.int 0), (.ref d), (.int 0), (.int 2)] h0 [d] (fun vq hq => vq = some (.int 2) ∧ Arv Z hq d kd .byte (2 : Int32) [(.int ((x0).toInt8.toInt32)), (.int ((x1).toInt8.toInt32))] (.int 0)) := by
  refine own_enter #[.val (.ref b), .val (.int 0), .val (.ref d), .val (.int 0), .val (.int 2), .unset, .unset] pn_java_lang_StringUTF16_compress___CI_BII_I (ef_rm28 b d kb kd x0 x1) hWd.1 O0 (allS g0 all0) ?_
  intro p e s m below meth c T0 X0 hnm hret
  refine og_iconst X0 1 (0 : Int32) d28_0 rfl rfl ?_
  refine og_istore X0 3 #[.val (.ref b), .val (.int 0), .val (.ref d), .val (.int 0), .val (.int 2), .val (.int 0), .unset] d28_1 rfl rfl ?_
  refine og_iload X0 5 d28_3 rfl rfl ?_
  refine og_iload X0 7 d28_5 rfl rfl ?_
  refine og_icmpN X0 10 d28_7 (XT.ii_ge_f (by decide)) rfl ?_
  refine og_aloadN X0 11 d28_10 rfl rfl rfl ?_
  refine og_iloadN X0 12 d28_11 rfl rfl ?_
  refine own_ldC X0 13 d28_12 q0 (by decide) (by decide) rfl rfl ?_
  refine og_istore X0 15 #[.val (.ref b), .val (.int 0), .val (.ref d), .val (.int 0), .val (.int 2), .val (.int 0), .val (.int x0)] d28_13 rfl rfl ?_
  refine og_iload X0 17 d28_15 rfl rfl ?_
  refine og_sipush X0 20 (255 : Int32) d28_17 rfl rfl ?_
  refine og_icmpY X0 26 d28_20 (XT.ii_le_t q2) (by decide) (by decide) ?_
  refine og_aloadN X0 27 d28_26 rfl rfl rfl ?_
  refine og_iloadN X0 28 d28_27 rfl rfl ?_
  refine og_iload X0 30 d28_28 rfl rfl ?_
  refine og_i2b X0 31 d28_30 rfl ?_
  refine own_stB X0 32 d28_31 q1 (own_nbb _) (by decide) (by decide) (i := 0) (by decide) (Nat.le_of_ble_eq_true rfl) (om 0 rfl) rfl ?_
  intro T1 h1 X1 W1 K1 A1
  have f2 : Arv Z h1 d kd .byte (2 : Int32) [(.int ((x0).toInt8.toInt32)), (.int 0)] (.int 0) := A1
  refine og_iinc X1 35 #[.val (.ref b), .val (.int 1), .val (.ref d), .val (.int 0), .val (.int 2), .val (.int 0), .val (.int x0)] d28_32 rfl rfl rfl ?_
  refine og_iinc X1 38 #[.val (.ref b), .val (.int 1), .val (.ref d), .val (.int 1), .val (.int 2), .val (.int 0), .val (.int x0)] d28_35 rfl rfl rfl ?_
  refine og_iinc X1 41 #[.val (.ref b), .val (.int 1), .val (.ref d), .val (.int 1), .val (.int 2), .val (.int 1), .val (.int x0)] d28_38 rfl rfl rfl ?_
  refine og_goto X1 3 d28_41 (by decide) (by decide) ?_
  refine og_iload X1 5 d28_3 rfl rfl ?_
  refine og_iload X1 7 d28_5 rfl rfl ?_
  refine og_icmpN X1 10 d28_7 (XT.ii_ge_f (by decide)) rfl ?_
  refine og_aloadN X1 11 d28_10 rfl rfl rfl ?_
  refine og_iloadN X1 12 d28_11 rfl rfl ?_
  have f3 := q0.keep K1 (ninS q4 nin0)
  refine own_ldC X1 13 d28_12 f3 (by decide) (by decide) rfl rfl ?_
  refine og_istore X1 15 #[.val (.ref b), .val (.int 1), .val (.ref d), .val (.int 1), .val (.int 2), .val (.int 1), .val (.int x1)] d28_13 rfl rfl ?_
  refine og_iload X1 17 d28_15 rfl rfl ?_
  refine og_sipush X1 20 (255 : Int32) d28_17 rfl rfl ?_
  refine og_icmpY X1 26 d28_20 (XT.ii_le_t q3) (by decide) (by decide) ?_
  refine og_aloadN X1 27 d28_26 rfl rfl rfl ?_
  refine og_iloadN X1 28 d28_27 rfl rfl ?_
  refine og_iload X1 30 d28_28 rfl rfl ?_
  refine og_i2b X1 31 d28_30 rfl ?_
  refine own_stB X1 32 d28_31 f2 (own_nbb _) (by decide) (by decide) (i := 1) (by decide) (Nat.le_of_ble_eq_true rfl) (om 0 rfl) rfl ?_
  intro T4 h4 X4 W4 K4 A4
  have f5 : Arv Z h4 d kd .byte (2 : Int32) [(.int ((x0).toInt8.toInt32)), (.int ((x1).toInt8.toInt32))] (.int 0) := A4
  refine og_iinc X4 35 #[.val (.ref b), .val (.int 2), .val (.ref d), .val (.int 1), .val (.int 2), .val (.int 1), .val (.int x1)] d28_32 rfl rfl rfl ?_
  refine og_iinc X4 38 #[.val (.ref b), .val (.int 2), .val (.ref d), .val (.int 2), .val (.int 2), .val (.int 1), .val (.int x1)] d28_35 rfl rfl rfl ?_
  refine og_iinc X4 41 #[.val (.ref b), .val (.int 2), .val (.ref d), .val (.int 2), .val (.int 2), .val (.int 2), .val (.int x1)] d28_38 rfl rfl rfl ?_
  refine og_goto X4 3 d28_41 (by decide) (by decide) ?_
  refine og_iload X4 5 d28_3 rfl rfl ?_
  refine og_iload X4 7 d28_5 rfl rfl ?_
  refine og_icmpY X4 44 d28_7 (XT.ii_ge_t (by decide)) (by decide) (by decide) ?_
  refine og_iload X4 46 d28_44 rfl rfl ?_
  refine own_retI X4 d28_46 hret (by decide) (by decide) ?_
  exact ⟨rfl, f5⟩
theorem rm27 (a0 : Array Value) (hw : OHw a0 Z) (hWd : OWorld Z a0) (O0 : Old Z n0 h0) (b : Addr) (kb : ClassId) (x0 : Int32) (x1 : Int32) (q0 : Arv Z h0 b kb .char (2 : Int32) [(.int x0), (.int x1)] (.int 0)) (q1 : ¬ (255 : Int32) < x0) (q2 : ¬ (255 : Int32) < x1) :
    OMet l Z own_EL n0 yN5 (Jvm.Cond.code yN5 jdk_52_method_16_code 6 (some (.array .byte)) :: wc) ({ frames := 1, cells := 1, slots := 2, locals := 18 } : Room) #[(.ref b), (.int 0), (.int 2)] h0 [] (fun vq hq => ∃ (r : Addr) (kr : ClassId), vq = some (.ref r) ∧ h0.size ≤ r ∧ Exa Z hq r "[B" ∧ Arv Z hq r kr .byte (2 : Int32) [(.int ((x0).toInt8.toInt32)), (.int ((x1).toInt8.toInt32))] (.int 0)) := by
  refine own_enter #[.val (.ref b), .val (.int 0), .val (.int 2), .unset, .unset, .unset] pn_java_lang_StringUTF16_compress___CII__B (ef_rm27 b kb x0 x1) hWd.1 O0 all0 ?_
  intro p e s m below meth c T0 X0 hnm hret
  refine og_iloadN X0 1 d27_0 rfl rfl ?_
  refine own_arrE X0 3 (ad := "[B") d27_1 (ow hw 18 rfl) (by decide) (cap := 2) (by decide) (by decide) (by decide) (by decide) (by decide) rfl ?_
  intro T1 h1 b1 kb1 X1 K1 G1 U1 A1 E1
  have f2 : Arv Z h1 b1 kb1 .byte (2 : Int32) [(.int 0), (.int 0)] (.int 0) := A1
  refine og_astoreN X1 4 #[.val (.ref b), .val (.int 0), .val (.int 2), .val (.ref b1), .unset, .unset] d27_3 rfl rfl rfl ?_
  refine og_aloadN X1 5 d27_4 rfl rfl rfl ?_
  refine og_iloadN X1 6 d27_5 rfl rfl ?_
  refine og_aloadN X1 7 d27_6 rfl rfl rfl ?_
  refine og_iconst X1 8 (0 : Int32) d27_7 rfl rfl ?_
  refine og_iloadN X1 9 d27_8 rfl rfl ?_
  have f3 := q0.keep K1 nin0
  refine own_stat X1 12 (argsL := [(.ref b), (.int 0), (.ref b1), (.int 0), (.int 2)]) (rest := []) d27_9 (rm28 l Z n0 h1 [] a0 hw hWd X1.old b b1 kb kb1 x0 x1 f3 f2 q1 q2 (Nat.ne_of_lt (Nat.lt_of_lt_of_le q0.lt G1)) (own_svb X1 (om 0 rfl))) (ow hw 163 rfl) (ow hw 164 rfl) (ow hw 161 rfl) (ow hw 165 rfl) (by decide) (lenOf pd__28_5bCI_5bBII_29I rfl) rfl rfl rfl (W := 0) rfl (by decide) (by decide) (by decide) (by decide) (allS (om 0 rfl) all0) rfl ?_
  intro T4 h4 v4 X4 K4 hQ4
  obtain ⟨rfl, f5⟩ := hQ4
  show OGo _ _ _ _ T4 (mkF m 12 #[.val (.ref b), .val (.int 0), .val (.int 2), .val (.ref b1), .unset, .unset] [(.int 2)])
  refine og_istore X4 14 #[.val (.ref b), .val (.int 0), .val (.int 2), .val (.ref b1), .val (.int 2), .unset] d27_12 rfl rfl ?_
  refine og_iload X4 16 d27_14 rfl rfl ?_
  refine og_iloadN X4 17 d27_16 rfl rfl ?_
  refine og_icmpY X4 57 d27_17 (XT.ii_eq_t (by decide)) (by decide) (by decide) ?_
  refine og_aloadN X4 58 d27_57 rfl rfl rfl ?_
  have f6 := E1.keep K4
  refine own_retA X4 d27_58 hret rfl rfl (by decide) (by decide) ?_
  exact ⟨b1, kb1, rfl, G1, f6, f5⟩
theorem rm29 (a0 : Array Value) (hw : OHw a0 Z) (hWd : OWorld Z a0) (O0 : Old Z n0 h0) (b : Addr) (kb : ClassId) (vs : List Value) (dv : Value) (q0 : Arv Z h0 b kb .byte (2 : Int32) vs dv) :
    OMet l Z own_EL n0 yN6 (Jvm.Cond.code yN6 jdk_52_method_15_code 2 (some .byte) :: wc) ({ frames := 0, cells := 0, slots := 0, locals := 0 } : Room) #[(.ref b), (.int 2)] h0 [] (fun vq hq => vq = some (.int 0)) := by
  refine own_enter #[.val (.ref b), .val (.int 2)] pn_java_lang_StringUTF16_coderFromArrayLen___BI_B (ef_rm29 b kb vs dv) hWd.1 O0 all0 ?_
  intro p e s m below meth c T0 X0 hnm hret
  refine og_iloadN X0 1 d29_0 rfl rfl ?_
  refine og_aloadN X0 2 d29_1 rfl rfl rfl ?_
  refine own_len X0 3 d29_2 q0 rfl ?_
  refine og_isub X0 4 d29_3 rfl ?_
  show OGo _ _ _ _ T0 (mkF m 4 #[.val (.ref b), .val (.int 2)] [(.int 0)])
  refine og_bipush X0 6 (31 : Int32) d29_4 rfl rfl ?_
  refine og_iushr X0 7 d29_6 rfl ?_
  show OGo _ _ _ _ T0 (mkF m 7 #[.val (.ref b), .val (.int 2)] [(.int 0)])
  refine og_i2b X0 8 d29_7 rfl ?_
  show OGo _ _ _ _ T0 (mkF m 8 #[.val (.ref b), .val (.int 2)] [(.int 0)])
  refine own_retY X0 d29_8 hret rfl (by decide) (by decide) ?_
  exact rfl
theorem rm26 (a0 : Array Value) (hw : OHw a0 Z) (hWd : OWorld Z a0) (O0 : Old Z n0 h0) (a : Addr) (b : Addr) (kb : ClassId) (x0 : Int32) (x1 : Int32) (q0 : Exa Z h0 a "java/lang/String") (q1 : Fld Z h0 a "java/lang/String" "value" "[B" .null) (q2 : Fld Z h0 a "java/lang/String" "coder" "B" (.int 0)) (q3 : Fld Z h0 a "java/lang/String" "hash" "I" (.int 0)) (q4 : Fld Z h0 a "java/lang/String" "hashIsZero" "Z" (.int 0)) (q5 : Arv Z h0 b kb .char (2 : Int32) [(.int x0), (.int x1)] (.int 0)) (q6 : ¬ (255 : Int32) < x0) (q7 : ¬ (255 : Int32) < x1) (g0 : n0 ≤ a ∧ a < h0.size) :
    OMet l Z own_EL n0 yN7 (Jvm.Cond.code yN7 jdk_42_method_149_code 6 none :: wc) ({ frames := 2, cells := 1, slots := 2, locals := 35 } : Room) #[(.ref a), (.ref b), (.int 0), (.int 2), .null] h0 [a] (fun vq hq => ∃ (t : Addr) (kt : ClassId), vq = none ∧ Fld Z hq a "java/lang/String" "coder" "B" (.int 0) ∧ Fld Z hq a "java/lang/String" "value" "[B" (.ref t) ∧ Fld Z hq a "java/lang/String" "hash" "I" (.int 0) ∧ Fld Z hq a "java/lang/String" "hashIsZero" "Z" (.int 0) ∧ Exa Z hq t "[B" ∧ Arv Z hq t kt .byte (2 : Int32) [(.int ((x0).toInt8.toInt32)), (.int ((x1).toInt8.toInt32))] (.int 0)) := by
  refine own_enter #[.val (.ref a), .val (.ref b), .val (.int 0), .val (.int 2), .val .null, .unset] pn_java_lang_String__init____CIILjava_lang_Void__V (ef_rm26 a b kb x0 x1) hWd.1 O0 (allS g0 all0) ?_
  intro p e s m below meth c T0 X0 hnm hret
  refine og_aloadN X0 1 d26_0 rfl rfl rfl ?_
  refine own_obj0 X0 4 (a := a) d26_1 (ow hw 23 rfl) (ow hw 24 rfl) (ow hw 25 rfl) rfl (W := 0) rfl (by decide) (by decide) rfl ?_
  intro T1 X2
  refine og_iloadN X2 5 d26_4 rfl rfl ?_
  refine og_ifY X2 27 d26_5 (XT.i0_ne_t (by decide)) (by decide) (by decide) ?_
  refine own_getS X2 30 d26_27 (host := "") (Or.inl (ow hw 8 rfl)) Via.refl hWd.2.1 rfl ?_
  intro T3 X4
  refine og_ifN X4 33 d26_30 (XT.i0_eq_f hWd.2.2) rfl ?_
  refine og_aloadN X4 34 d26_33 rfl rfl rfl ?_
  refine og_iloadN X4 35 d26_34 rfl rfl ?_
  refine og_iloadN X4 36 d26_35 rfl rfl ?_
  refine own_stat X4 39 (argsL := [(.ref b), (.int 0), (.int 2)]) (rest := []) d26_36 (rm27 l Z n0 h0 [] a0 hw hWd X4.old b kb x0 x1 q5 q6 q7 ) (ow hw 159 rfl) (ow hw 160 rfl) (ow hw 161 rfl) (ow hw 162 rfl) (by decide) (lenOf pd__28_5bCII_29_5bB rfl) rfl rfl rfl (W := 0) rfl (by decide) (by decide) (by decide) (by decide) all0 rfl ?_
  intro T5 h5 v5 X5 K5 hQ5
  obtain ⟨r5, kr5, rfl, ge_r5, f6, f7⟩ := hQ5
  show OGo _ _ _ _ T5 (mkF m 39 #[.val (.ref a), .val (.ref b), .val (.int 0), .val (.int 2), .val .null, .unset] [(.ref r5)])
  refine og_astore X5 41 #[.val (.ref a), .val (.ref b), .val (.int 0), .val (.int 2), .val .null, .val (.ref r5)] d26_39 rfl rfl rfl ?_
  refine og_aloadN X5 42 d26_41 rfl rfl rfl ?_
  refine og_aload X5 44 d26_42 rfl rfl rfl ?_
  refine og_iloadN X5 45 d26_44 rfl rfl ?_
  refine own_stat X5 48 (argsL := [(.ref r5), (.int 2)]) (rest := [(.ref a)]) d26_45 (rm29 l Z n0 h5 [] a0 hw hWd X5.old r5 kr5 [(.int ((x0).toInt8.toInt32)), (.int ((x1).toInt8.toInt32))] (.int 0) f7 ) (ow hw 166 rfl) (ow hw 167 rfl) (ow hw 161 rfl) (ow hw 168 rfl) (by decide) (lenOf pd__28_5bBI_29B rfl) rfl rfl rfl (W := 1) rfl (by decide) (by decide) (by decide) (by decide) all0 rfl ?_
  intro T8 h8 v8 X8 K8 hQ8
  obtain rfl := hQ8
  show OGo _ _ _ _ T8 (mkF m 48 #[.val (.ref a), .val (.ref b), .val (.int 0), .val (.int 2), .val .null, .val (.ref r5)] [(.int 0), (.ref a)])
  have f9 := q2.keep K5 nin0
  have f10 := f9.keep K8 nin0
  have f11 := q0.keep K5
  have f12 := f11.keep K8
  have f13 := q1.keep K5 nin0
  have f14 := f13.keep K8 nin0
  have f15 := q3.keep K5 nin0
  have f16 := f15.keep K8 nin0
  have f17 := q4.keep K5 nin0
  have f18 := f17.keep K8 nin0
  refine own_put X8 51 d26_48 (host := "") (Or.inl (ow hw 28 rfl)) Via.refl f10 f12 (Or.inr ⟨(ow hw 29 rfl), rfl, hnm⟩) (ow hw 14 rfl) (ty := .byte) (by decide) rfl rfl (om 0 rfl) rfl ?_
  intro T19 h19 X19 W19 K19 F19
  have f20 := Fld.other W19 f14 (Or.inr (slot_ne (Or.inr (ow hw 27 rfl)) (Or.inr (ow hw 29 rfl)) (by decide) (t := (.array .byte)) (t' := .byte) (by decide) (by decide)))
  have f21 := Fld.other W19 f16 (Or.inr (slot_ne (Or.inl (ow hw 65 rfl)) (Or.inr (ow hw 29 rfl)) (by decide) (t := .int) (t' := .byte) (by decide) (by decide)))
  have f22 := Fld.other W19 f18 (Or.inr (slot_ne (Or.inl (ow hw 67 rfl)) (Or.inr (ow hw 29 rfl)) (by decide) (t := .boolean) (t' := .byte) (by decide) (by decide)))
  refine og_aloadN X19 52 d26_51 rfl rfl rfl ?_
  refine og_aload X19 54 d26_52 rfl rfl rfl ?_
  have f23 := f12.keep K19
  refine own_put X19 57 d26_54 (host := "") (Or.inl (ow hw 26 rfl)) Via.refl f20 f23 (Or.inr ⟨(ow hw 27 rfl), rfl, hnm⟩) (ow hw 14 rfl) (ty := (.array .byte)) (by decide) rfl rfl (om 0 rfl) rfl ?_
  intro T24 h24 X24 W24 K24 F24
  have f25 := Fld.other W24 F19 (Or.inr (slot_ne (Or.inr (ow hw 29 rfl)) (Or.inr (ow hw 27 rfl)) (by decide) (t := .byte) (t' := (.array .byte)) (by decide) (by decide)))
  have f26 := Fld.other W24 f21 (Or.inr (slot_ne (Or.inl (ow hw 65 rfl)) (Or.inr (ow hw 27 rfl)) (by decide) (t := .int) (t' := (.array .byte)) (by decide) (by decide)))
  have f27 := Fld.other W24 f22 (Or.inr (slot_ne (Or.inl (ow hw 67 rfl)) (Or.inr (ow hw 27 rfl)) (by decide) (t := .boolean) (t' := (.array .byte)) (by decide) (by decide)))
  have f28 := f6.keep K8
  have f29 := f28.keep K19
  have f30 := f29.keep K24
  have f31 := f7.keep K8 nin0
  have f32 := f31.keep K19 (ninS (Nat.ne_of_gt (Nat.lt_of_lt_of_le q0.lt ge_r5)) nin0)
  have f33 := f32.keep K24 (ninS (Nat.ne_of_gt (Nat.lt_of_lt_of_le q0.lt ge_r5)) nin0)
  refine own_retV X24 d26_57 hret (by decide) (by decide) ?_
  exact ⟨r5, kr5, rfl, f25, F24, f26, f27, f30, f33⟩
theorem rm25 (a0 : Array Value) (hw : OHw a0 Z) (hWd : OWorld Z a0) (O0 : Old Z n0 h0) (a : Addr) (b : Addr) (kb : ClassId) (x0 : Int32) (x1 : Int32) (q0 : Exa Z h0 a "java/lang/String") (q1 : Fld Z h0 a "java/lang/String" "value" "[B" .null) (q2 : Fld Z h0 a "java/lang/String" "coder" "B" (.int 0)) (q3 : Fld Z h0 a "java/lang/String" "hash" "I" (.int 0)) (q4 : Fld Z h0 a "java/lang/String" "hashIsZero" "Z" (.int 0)) (q5 : Arv Z h0 b kb .char (2 : Int32) [(.int x0), (.int x1)] (.int 0)) (q6 : ¬ (255 : Int32) < x0) (q7 : ¬ (255 : Int32) < x1) (g0 : n0 ≤ a ∧ a < h0.size) :
    OMet l Z own_EL n0 yN8 (Jvm.Cond.code yN8 jdk_42_method_3_code 2 none :: wc) ({ frames := 3, cells := 1, slots := 2, locals := 52 } : Room) #[(.ref a), (.ref b)] h0 [a] (fun vq hq => ∃ (t : Addr) (kt : ClassId), vq = none ∧ Fld Z hq a "java/lang/String" "coder" "B" (.int 0) ∧ Fld Z hq a "java/lang/String" "value" "[B" (.ref t) ∧ Fld Z hq a "java/lang/String" "hash" "I" (.int 0) ∧ Fld Z hq a "java/lang/String" "hashIsZero" "Z" (.int 0) ∧ Exa Z hq t "[B" ∧ Arv Z hq t kt .byte (2 : Int32) [(.int ((x0).toInt8.toInt32)), (.int ((x1).toInt8.toInt32))] (.int 0)) := by
  refine own_enter #[.val (.ref a), .val (.ref b)] pn_java_lang_String__init____C_V (ef_rm25 a b kb x0 x1) hWd.1 O0 (allS g0 all0) ?_
  intro p e s m below meth c T0 X0 hnm hret
  refine og_aloadN X0 1 d25_0 rfl rfl rfl ?_
  refine og_aloadN X0 2 d25_1 rfl rfl rfl ?_
  refine og_iconst X0 3 (0 : Int32) d25_2 rfl rfl ?_
  refine og_aloadN X0 4 d25_3 rfl rfl rfl ?_
  refine own_len X0 5 d25_4 q5 rfl ?_
  refine og_aconstNull X0 6 d25_5 rfl ?_
  refine own_spec X0 9 (a := a) (argsL := [(.ref b), (.int 0), (.int 2), .null]) (rest := []) d25_6 rfl (rm26 l Z n0 h0 [] a0 hw hWd X0.old a b kb x0 x1 q0 q1 q2 q3 q4 q5 q6 q7 (own_svb X0 (om 0 rfl))) (ow hw 156 rfl) (ow hw 157 rfl) (ow hw 6 rfl) (ow hw 158 rfl) (by decide) (lenOf pd__28_5bCIILjava_2flang_2fVoid_3b_29V rfl) rfl rfl rfl (W := 0) rfl (by decide) (by decide) (by decide) (by decide) (allS (om 0 rfl) all0) rfl ?_
  intro T1 h1 v1 X1 K1 hQ1
  obtain ⟨t1, kt1, rfl, f2, f3, f4, f5, f6, f7⟩ := hQ1
  show OGo _ _ _ _ T1 (mkF m 9 #[.val (.ref a), .val (.ref b)] [])
  refine own_retV X1 d25_9 hret (by decide) (by decide) ?_
  exact ⟨t1, kt1, rfl, f2, f3, f4, f5, f6, f7⟩
theorem rm1 (a0 : Array Value) (hw : OHw a0 Z) (hWd : OWorld Z a0) (O0 : Old Z n0 h0) (x : Int32)  :
    OMet l Z own_EL n0 yN9 (Jvm.Cond.code yN9 method_4_code 2 (some (.object "java/lang/String")) :: wc) ({ frames := 4, cells := 3, slots := 8, locals := 66 } : Room) #[(.int x)] h0 [] (fun vq hq => ∃ (r : Addr) (t : Addr) (kt : ClassId) (cs : List Int32), vq = some (.ref r) ∧ h0.size ≤ r ∧ Exa Z hq r "java/lang/String" ∧ Fld Z hq r "java/lang/String" "coder" "B" (.int 0) ∧ Fld Z hq r "java/lang/String" "value" "[B" (.ref t) ∧ Fld Z hq r "java/lang/String" "hash" "I" (.int 0) ∧ Fld Z hq r "java/lang/String" "hashIsZero" "Z" (.int 0) ∧ Exa Z hq t "[B" ∧ Arv Z hq t kt .byte (Int32.ofNat (cs).length) ((cs).map fun c => Value.int (StrChars.lo8 c)) (.int 0) ∧ own_good cs) := by
  refine own_enter #[.val (.int x), .unset] pn_com_example_ratable_ratable_core_PostedByIdAtPinLaw_id__I_Ljava_lang_String_ (ef_rm1 x) hWd.1 O0 all0 ?_
  intro p e s m below meth c T0 X0 hnm hret
  refine og_iloadN X0 1 d1_0 rfl rfl ?_
  refine og_bipush X0 3 (16 : Int32) d1_1 rfl rfl ?_
  refine og_iushr X0 4 d1_3 rfl ?_
  refine og_iconst X0 5 (1 : Int32) d1_4 rfl rfl ?_
  refine og_iand X0 6 d1_5 rfl ?_
  by_cases hc1 : ((XT.ushr x (16 : Int32)) &&& (1 : Int32)) = 0
  · -- ((XT.ushr x (16 : Int32)) &&& (1 : Int32)) = 0
    refine og_ifN X0 9 d1_6 (XT.i0_ne_f hc1) rfl ?_
    refine og_iloadN X0 10 d1_9 rfl rfl ?_
    refine og_sipush X0 13 (255 : Int32) d1_10 rfl rfl ?_
    refine og_iand X0 14 d1_13 rfl ?_
    refine og_i2c8 X0 15 d1_14 rfl ?_
    refine own_stat X0 18 (argsL := [(.int (x &&& (255 : Int32)))]) (rest := []) d1_15 (rm2 l Z n0 h0 [] a0 hw hWd X0.old (x &&& (255 : Int32)) (own_lat8 _).2 ) (ow hw 4 rfl) (ow hw 5 rfl) (ow hw 6 rfl) (ow hw 7 rfl) (by decide) (lenOf pd__28C_29Ljava_2flang_2fString_3b rfl) rfl rfl rfl (W := 0) rfl (by decide) (by decide) (by decide) (by decide) all0 rfl ?_
    intro T2 h2 v2 X2 K2 hQ2
    obtain ⟨r2, t2, kt2, rfl, ge_r2, f3, f4, f5, f6, f7, f8, f9⟩ := hQ2
    show OGo _ _ _ _ T2 (mkF m 18 #[.val (.int x), .unset] [(.ref r2)])
    refine own_retA X2 d1_18 hret rfl rfl (by decide) (by decide) ?_
    exact ⟨_, _, _, [(x &&& (255 : Int32))], rfl, ge_r2, f3, f4, f5, f6, f7, f8, f9, own_good1 _⟩
  · -- not
    refine og_ifY X0 19 d1_6 (XT.i0_ne_t hc1) (by decide) (by decide) ?_
    refine og_iconst X0 20 (2 : Int32) d1_19 rfl rfl ?_
    refine own_arrE X0 22 (ad := "[C") d1_20 (ow hw 152 rfl) (by decide) (cap := 2) (by decide) (by decide) (by decide) (by decide) (by decide) rfl ?_
    intro T10 h10 b10 kb10 X10 K10 G10 U10 A10 E10
    have f11 : Arv Z h10 b10 kb10 .char (2 : Int32) [(.int 0), (.int 0)] (.int 0) := A10
    refine og_astoreN X10 23 #[.val (.int x), .val (.ref b10)] d1_22 rfl rfl rfl ?_
    refine og_aloadN X10 24 d1_23 rfl rfl rfl ?_
    refine og_iconst X10 25 (0 : Int32) d1_24 rfl rfl ?_
    refine og_iloadN X10 26 d1_25 rfl rfl ?_
    refine og_sipush X10 29 (255 : Int32) d1_26 rfl rfl ?_
    refine og_iand X10 30 d1_29 rfl ?_
    refine og_i2c8 X10 31 d1_30 rfl ?_
    refine own_stC X10 32 d1_31 f11 (own_nc8 _) (by decide) (by decide) (i := 0) (by decide) (Nat.le_of_ble_eq_true rfl) (om 0 rfl) rfl ?_
    intro T12 h12 X12 W12 K12 A12
    have f13 : Arv Z h12 b10 kb10 .char (2 : Int32) [(.int (x &&& (255 : Int32))), (.int 0)] (.int 0) := A12
    refine og_aloadN X12 33 d1_32 rfl rfl rfl ?_
    refine og_iconst X12 34 (1 : Int32) d1_33 rfl rfl ?_
    refine og_iloadN X12 35 d1_34 rfl rfl ?_
    refine og_bipush X12 37 (8 : Int32) d1_35 rfl rfl ?_
    refine og_iushr X12 38 d1_37 rfl ?_
    refine og_sipush X12 41 (255 : Int32) d1_38 rfl rfl ?_
    refine og_iand X12 42 d1_41 rfl ?_
    refine og_i2c8 X12 43 d1_42 rfl ?_
    refine own_stC X12 44 d1_43 f13 (own_nc8 _) (by decide) (by decide) (i := 1) (by decide) (Nat.le_of_ble_eq_true rfl) (om 0 rfl) rfl ?_
    intro T14 h14 X14 W14 K14 A14
    have f15 : Arv Z h14 b10 kb10 .char (2 : Int32) [(.int (x &&& (255 : Int32))), (.int ((XT.ushr x (8 : Int32)) &&& (255 : Int32)))] (.int 0) := A14
    refine own_new X14 47 d1_44 (ow hw 32 rfl) (ow hw 14 rfl) (ow hw 6 rfl) (by decide) (by decide) rfl ?_
    intro T16 h16 b16 X16 K16 G16 U16 E16 D16
    have f17 : Fld Z h16 b16 "java/lang/String" "value" "[B" .null := D16 (Or.inr (ow hw 27 rfl)) (ty := (.array .byte)) (by decide)
    have f18 : Fld Z h16 b16 "java/lang/String" "coder" "B" (.int 0) := D16 (Or.inr (ow hw 29 rfl)) (ty := .byte) (by decide)
    have f19 : Fld Z h16 b16 "java/lang/String" "hash" "I" (.int 0) := D16 (Or.inl (ow hw 65 rfl)) (ty := .int) (by decide)
    have f20 : Fld Z h16 b16 "java/lang/String" "hashIsZero" "Z" (.int 0) := D16 (Or.inl (ow hw 67 rfl)) (ty := .boolean) (by decide)
    refine og_dup X16 48 d1_47 rfl rfl ?_
    refine og_aloadN X16 49 d1_48 rfl rfl rfl ?_
    have f21 := f15.keep K16 nin0
    refine own_spec X16 52 (a := b16) (argsL := [(.ref b10)]) (rest := [(.ref b16)]) d1_49 rfl (rm25 l Z n0 h16 [] a0 hw hWd X16.old b16 b10 kb10 (x &&& (255 : Int32)) ((XT.ushr x (8 : Int32)) &&& (255 : Int32)) E16 f17 f18 f19 f20 f21 (own_lat8 _).2 (own_lat8 _).2 (own_svb X16 (om 0 rfl))) (ow hw 153 rfl) (ow hw 154 rfl) (ow hw 6 rfl) (ow hw 155 rfl) (by decide) (lenOf pd__28_5bC_29V rfl) rfl rfl rfl (W := 1) rfl (by decide) (by decide) (by decide) (by decide) (allS (om 0 rfl) all0) rfl ?_
    intro T22 h22 v22 X22 K22 hQ22
    obtain ⟨t22, kt22, rfl, f23, f24, f25, f26, f27, f28⟩ := hQ22
    show OGo _ _ _ _ T22 (mkF m 52 #[.val (.int x), .val (.ref b10)] [(.ref b16)])
    have f29 := E16.keep K22
    refine own_retA X22 d1_52 hret rfl rfl (by decide) (by decide) ?_
    exact ⟨_, _, _, [(x &&& (255 : Int32)), ((XT.ushr x (8 : Int32)) &&& (255 : Int32))], rfl, (Nat.le_trans (Nat.le_trans (Nat.le_trans K10.1 K12.1) K14.1) G16), f29, f23, f24, f25, f26, f27, f28, own_good2 _ _⟩
theorem rm12 (a0 : Array Value) (hw : OHw a0 Z) (hWd : OWorld Z a0) (O0 : Old Z n0 h0) (a : Addr) (q0 : Fld Z h0 a "java/lang/String" "coder" "B" (.int 0)) :
    OMet l Z own_EL n0 yN10 (Jvm.Cond.code yN10 jdk_42_method_154_code 1 (some .boolean) :: wc) ({ frames := 0, cells := 0, slots := 0, locals := 0 } : Room) #[(.ref a)] h0 [] (fun vq hq => vq = some (.int 1)) := by
  refine own_enter #[.val (.ref a)] pn_java_lang_String_isLatin1___Z (ef_rm12 a) hWd.1 O0 all0 ?_
  intro p e s m below meth c T0 X0 hnm hret
  refine own_getS X0 3 d12_0 (host := "") (Or.inl (ow hw 8 rfl)) Via.refl hWd.2.1 rfl ?_
  intro T1 X2
  refine og_ifN X2 6 d12_3 (XT.i0_eq_f hWd.2.2) rfl ?_
  refine og_aloadN X2 7 d12_6 rfl rfl rfl ?_
  refine own_get X2 10 d12_7 (host := "") (Or.inl (ow hw 28 rfl)) Via.refl q0 rfl ?_
  intro T3 X4
  refine og_ifN X4 13 d12_10 (XT.i0_ne_f (by decide)) rfl ?_
  refine og_iconst X4 14 (1 : Int32) d12_13 rfl rfl ?_
  refine og_goto X4 18 d12_14 (by decide) (by decide) ?_
  refine own_retZ X4 d12_18 hret rfl (by decide) (by decide) ?_
  exact rfl
theorem rm31 (a0 : Array Value) (hw : OHw a0 Z) (hWd : OWorld Z a0) (O0 : Old Z n0 h0) (t : Addr) (kt : ClassId) (x : Int32) (y : Int32) (q0 : Arv Z h0 t kt .byte (2 : Int32) [(.int (StrChars.lo8 x)), (.int (StrChars.lo8 y))] (.int 0)) :
    OMet l Z own_EL n0 yN11 (Jvm.Cond.code yN11 jdk_48_method_5_code 6 (some .int) :: wc) ({ frames := 0, cells := 0, slots := 0, locals := 0 } : Room) #[(.int 0), (.ref t), (.int 0), (.int 2)] h0 [] (fun vq hq => vq = some (.int (own_hc [x, y]))) := by
  refine own_enter #[.val (.int 0), .val (.ref t), .val (.int 0), .val (.int 2), .unset, .unset] pn_jdk_internal_util_ArraysSupport_signedHashCode__I_BII_I (ef_rm31 t kt x y) hWd.1 O0 all0 ?_
  intro p e s m below meth c T0 X0 hnm hret
  refine og_iloadN X0 1 d31_0 rfl rfl ?_
  refine og_iloadN X0 2 d31_1 rfl rfl ?_
  refine og_iadd X0 3 d31_2 rfl ?_
  show OGo _ _ _ _ T0 (mkF m 3 #[.val (.int 0), .val (.ref t), .val (.int 0), .val (.int 2), .unset, .unset] [(.int 2)])
  refine og_istore X0 5 #[.val (.int 0), .val (.ref t), .val (.int 0), .val (.int 2), .val (.int 2), .unset] d31_3 rfl rfl ?_
  refine og_iloadN X0 6 d31_5 rfl rfl ?_
  refine og_istore X0 8 #[.val (.int 0), .val (.ref t), .val (.int 0), .val (.int 2), .val (.int 2), .val (.int 0)] d31_6 rfl rfl ?_
  refine og_iload X0 10 d31_8 rfl rfl ?_
  refine og_iload X0 12 d31_10 rfl rfl ?_
  refine og_icmpN X0 15 d31_12 (XT.ii_ge_f (by decide)) rfl ?_
  refine og_bipush X0 17 (31 : Int32) d31_15 rfl rfl ?_
  refine og_iloadN X0 18 d31_17 rfl rfl ?_
  refine og_imul X0 19 d31_18 rfl ?_
  show OGo _ _ _ _ T0 (mkF m 19 #[.val (.int 0), .val (.ref t), .val (.int 0), .val (.int 2), .val (.int 2), .val (.int 0)] [(.int 0)])
  refine og_aloadN X0 20 d31_19 rfl rfl rfl ?_
  refine og_iload X0 22 d31_20 rfl rfl ?_
  refine own_ldB X0 23 d31_22 q0 (by decide) (by decide) rfl rfl ?_
  refine og_sipush X0 26 (255 : Int32) d31_23 rfl rfl ?_
  refine og_iand X0 27 d31_26 rfl ?_
  refine og_iadd X0 28 d31_27 rfl ?_
  refine og_istoreN X0 29 #[.val (.int ((0 : Int32) + ((StrChars.lo8 x) &&& (255 : Int32)))), .val (.ref t), .val (.int 0), .val (.int 2), .val (.int 2), .val (.int 0)] d31_28 rfl rfl ?_
  refine og_iinc X0 32 #[.val (.int ((0 : Int32) + ((StrChars.lo8 x) &&& (255 : Int32)))), .val (.ref t), .val (.int 0), .val (.int 2), .val (.int 2), .val (.int 1)] d31_29 rfl rfl rfl ?_
  refine og_goto X0 8 d31_32 (by decide) (by decide) ?_
  refine og_iload X0 10 d31_8 rfl rfl ?_
  refine og_iload X0 12 d31_10 rfl rfl ?_
  refine og_icmpN X0 15 d31_12 (XT.ii_ge_f (by decide)) rfl ?_
  refine og_bipush X0 17 (31 : Int32) d31_15 rfl rfl ?_
  refine og_iloadN X0 18 d31_17 rfl rfl ?_
  refine og_imul X0 19 d31_18 rfl ?_
  refine og_aloadN X0 20 d31_19 rfl rfl rfl ?_
  refine og_iload X0 22 d31_20 rfl rfl ?_
  refine own_ldB X0 23 d31_22 q0 (by decide) (by decide) rfl rfl ?_
  refine og_sipush X0 26 (255 : Int32) d31_23 rfl rfl ?_
  refine og_iand X0 27 d31_26 rfl ?_
  refine og_iadd X0 28 d31_27 rfl ?_
  refine og_istoreN X0 29 #[.val (.int (((31 : Int32) * ((0 : Int32) + ((StrChars.lo8 x) &&& (255 : Int32)))) + ((StrChars.lo8 y) &&& (255 : Int32)))), .val (.ref t), .val (.int 0), .val (.int 2), .val (.int 2), .val (.int 1)] d31_28 rfl rfl ?_
  refine og_iinc X0 32 #[.val (.int (((31 : Int32) * ((0 : Int32) + ((StrChars.lo8 x) &&& (255 : Int32)))) + ((StrChars.lo8 y) &&& (255 : Int32)))), .val (.ref t), .val (.int 0), .val (.int 2), .val (.int 2), .val (.int 2)] d31_29 rfl rfl rfl ?_
  refine og_goto X0 8 d31_32 (by decide) (by decide) ?_
  refine og_iload X0 10 d31_8 rfl rfl ?_
  refine og_iload X0 12 d31_10 rfl rfl ?_
  refine og_icmpY X0 35 d31_12 (XT.ii_ge_t (by decide)) (by decide) (by decide) ?_
  refine og_iloadN X0 36 d31_35 rfl rfl ?_
  refine own_retI X0 d31_36 hret (by decide) (by decide) ?_
  exact rfl
theorem rm30 (a0 : Array Value) (hw : OHw a0 Z) (hWd : OWorld Z a0) (O0 : Old Z n0 h0) (t : Addr) (kt : ClassId) (x : Int32) (y : Int32) (q0 : Exa Z h0 t "[B") (q1 : Arv Z h0 t kt .byte (2 : Int32) [(.int (StrChars.lo8 x)), (.int (StrChars.lo8 y))] (.int 0)) :
    OMet l Z own_EL n0 yN12 (Jvm.Cond.code yN12 jdk_48_method_4_code 5 (some .int) :: wc) ({ frames := 1, cells := 0, slots := 0, locals := 17 } : Room) #[(.ref t), (.int 0), (.int 2), (.int 0), (.int 4)] h0 [] (fun vq hq => vq = some (.int (own_hc [x, y]))) := by
  refine own_enter #[.val (.ref t), .val (.int 0), .val (.int 2), .val (.int 0), .val (.int 4)] pn_jdk_internal_util_ArraysSupport_vectorizedHashCode__Ljava_lang_Object_IIII_I (ef_rm30 t kt x y) hWd.1 O0 all0 ?_
  intro p e s m below meth c T0 X0 hnm hret
  refine og_iload X0 2 d30_0 rfl rfl ?_
  refine og_tabIn X0 44 d30_2 (by decide) rfl (by decide) (by decide) ?_
  refine og_iloadN X0 45 d30_44 rfl rfl ?_
  refine og_aloadN X0 46 d30_45 rfl rfl rfl ?_
  refine own_cast X0 49 d30_46 (ow hw 173 rfl) (Ins.self q0) rfl ?_
  intro T1 X2
  refine og_iloadN X2 50 d30_49 rfl rfl ?_
  refine og_iloadN X2 51 d30_50 rfl rfl ?_
  refine own_stat X2 54 (argsL := [(.int 0), (.ref t), (.int 0), (.int 2)]) (rest := []) d30_51 (rm31 l Z n0 h0 [] a0 hw hWd X2.old t kt x y q1 ) (ow hw 175 rfl) (ow hw 176 rfl) (ow hw 171 rfl) (ow hw 177 rfl) (by decide) (lenOf pd__28I_5bBII_29I rfl) rfl rfl rfl (W := 0) rfl (by decide) (by decide) (by decide) (by decide) all0 rfl ?_
  intro T3 h3 v3 X3 K3 hQ3
  obtain rfl := hQ3
  show OGo _ _ _ _ T3 (mkF m 54 #[.val (.ref t), .val (.int 0), .val (.int 2), .val (.int 0), .val (.int 4)] [(.int (own_hc [x, y]))])
  refine og_goto X3 157 d30_54 (by decide) (by decide) ?_
  refine own_retI X3 d30_157 hret (by decide) (by decide) ?_
  exact rfl
theorem rh_l1 (a0 : Array Value) (hw : OHw a0 Z) (hWd : OWorld Z a0) (O0 : Old Z n0 h0) (t : Addr) (kt : ClassId) (x : Int32) (q0 : Arv Z h0 t kt .byte (1 : Int32) [(.int (StrChars.lo8 x))] (.int 0)) :
    OMet l Z own_EL n0 yN13 (Jvm.Cond.code yN13 jdk_43_method_21_code 1 (some .int) :: wc) ({ frames := 0, cells := 0, slots := 0, locals := 0 } : Room) #[(.ref t)] h0 [] (fun vq hq => vq = some (.int (own_hc [x]))) := by
  refine own_enter #[.val (.ref t)] pn_java_lang_StringLatin1_hashCode___B_I (ef_rh_l1 t kt x) hWd.1 O0 all0 ?_
  intro p e s m below meth c T0 X0 hnm hret
  refine og_aloadN X0 1 d13_0 rfl rfl rfl ?_
  refine own_len X0 2 d13_1 q0 rfl ?_
  refine og_lookHit X0 32 d13_2 (by decide) rfl (by decide) (by decide) ?_
  refine og_aloadN X0 33 d13_32 rfl rfl rfl ?_
  refine og_iconst X0 34 (0 : Int32) d13_33 rfl rfl ?_
  refine own_ldB X0 35 d13_34 q0 (by decide) (by decide) rfl rfl ?_
  refine og_sipush X0 38 (255 : Int32) d13_35 rfl rfl ?_
  refine og_iand X0 39 d13_38 rfl ?_
  refine og_goto X0 51 d13_39 (by decide) (by decide) ?_
  refine own_retI X0 d13_51 hret (by decide) (by decide) ?_
  exact rfl
theorem rh_l2 (a0 : Array Value) (hw : OHw a0 Z) (hWd : OWorld Z a0) (O0 : Old Z n0 h0) (t : Addr) (kt : ClassId) (x : Int32) (y : Int32) (q0 : Exa Z h0 t "[B") (q1 : Arv Z h0 t kt .byte (2 : Int32) [(.int (StrChars.lo8 x)), (.int (StrChars.lo8 y))] (.int 0)) :
    OMet l Z own_EL n0 yN13 (Jvm.Cond.code yN13 jdk_43_method_21_code 1 (some .int) :: wc) ({ frames := 2, cells := 0, slots := 0, locals := 33 } : Room) #[(.ref t)] h0 [] (fun vq hq => vq = some (.int (own_hc [x, y]))) := by
  refine own_enter #[.val (.ref t)] pn_java_lang_StringLatin1_hashCode___B_I (ef_rh_l2 t kt x y) hWd.1 O0 all0 ?_
  intro p e s m below meth c T0 X0 hnm hret
  refine og_aloadN X0 1 d13_0 rfl rfl rfl ?_
  refine own_len X0 2 d13_1 q1 rfl ?_
  refine og_lookMiss X0 42 d13_2 (by decide) rfl (by decide) (by decide) ?_
  refine og_aloadN X0 43 d13_42 rfl rfl rfl ?_
  refine og_iconst X0 44 (0 : Int32) d13_43 rfl rfl ?_
  refine og_aloadN X0 45 d13_44 rfl rfl rfl ?_
  refine own_len X0 46 d13_45 q1 rfl ?_
  refine og_iconst X0 47 (0 : Int32) d13_46 rfl rfl ?_
  refine og_iconst X0 48 (4 : Int32) d13_47 rfl rfl ?_
  refine own_stat X0 51 (argsL := [(.ref t), (.int 0), (.int 2), (.int 0), (.int 4)]) (rest := []) d13_48 (rm30 l Z n0 h0 [] a0 hw hWd X0.old t kt x y q0 q1 ) (ow hw 169 rfl) (ow hw 170 rfl) (ow hw 171 rfl) (ow hw 172 rfl) (by decide) (lenOf pd__28Ljava_2flang_2fObject_3bIIII_29I rfl) rfl rfl rfl (W := 0) rfl (by decide) (by decide) (by decide) (by decide) all0 rfl ?_
  intro T1 h1 v1 X1 K1 hQ1
  obtain rfl := hQ1
  show OGo _ _ _ _ T1 (mkF m 51 #[.val (.ref t)] [(.int (own_hc [x, y]))])
  refine own_retI X1 d13_51 hret (by decide) (by decide) ?_
  exact rfl
theorem rh_first (a0 : Array Value) (hw : OHw a0 Z) (hWd : OWorld Z a0) (O0 : Old Z n0 h0) (u : Addr) (t : Addr) (kt : ClassId) (cs : List Int32) (q0 : Exa Z h0 u "java/lang/String") (q1 : Fld Z h0 u "java/lang/String" "coder" "B" (.int 0)) (q2 : Fld Z h0 u "java/lang/String" "value" "[B" (.ref t)) (q3 : Fld Z h0 u "java/lang/String" "hash" "I" (.int 0)) (q4 : Fld Z h0 u "java/lang/String" "hashIsZero" "Z" (.int 0)) (q5 : Exa Z h0 t "[B") (q6 : Arv Z h0 t kt .byte (Int32.ofNat (cs).length) ((cs).map fun c => Value.int (StrChars.lo8 c)) (.int 0)) (q7 : own_good cs) (g0 : n0 ≤ u ∧ u < h0.size) :
    OMet l Z own_EL n0 yN14 (Jvm.Cond.code yN14 jdk_42_method_78_code 2 (some .int) :: wc) ({ frames := 3, cells := 0, slots := 0, locals := 45 } : Room) #[(.ref u)] h0 [u] (fun vq hq => vq = some (.int (own_hc cs)) ∧ Fld Z hq u "java/lang/String" "coder" "B" (.int 0) ∧ Fld Z hq u "java/lang/String" "value" "[B" (.ref t) ∧ Fld Z hq u "java/lang/String" "hash" "I" (.int (own_hc cs)) ∧ Fld Z hq u "java/lang/String" "hashIsZero" "Z" (.int (own_hz cs))) := by
  refine own_enter #[.val (.ref u), .unset] pn_java_lang_String_hashCode___I (ef_rh_first u t kt cs) hWd.1 O0 (allS g0 all0) ?_
  intro p e s m below meth c T0 X0 hnm hret
  rcases q7.2 with ⟨x, rfl⟩ | ⟨x, y, rfl⟩
  · -- 1
    have f1 : Arv Z h0 t kt .byte (1 : Int32) [(.int (StrChars.lo8 x))] (.int 0) := q6
    refine og_aloadN X0 1 d11_0 rfl rfl rfl ?_
    refine own_get X0 4 d11_1 (host := "") (Or.inl (ow hw 64 rfl)) Via.refl q3 rfl ?_
    intro T2 X3
    refine og_istoreN X3 5 #[.val (.ref u), .val (.int 0)] d11_4 rfl rfl ?_
    refine og_iloadN X3 6 d11_5 rfl rfl ?_
    refine og_ifN X3 9 d11_6 (XT.i0_ne_f (by decide)) rfl ?_
    refine og_aloadN X3 10 d11_9 rfl rfl rfl ?_
    refine own_get X3 13 d11_10 (host := "") (Or.inl (ow hw 66 rfl)) Via.refl q4 rfl ?_
    intro T4 X5
    refine og_ifN X5 16 d11_13 (XT.i0_ne_f (by decide)) rfl ?_
    refine og_aloadN X5 17 d11_16 rfl rfl rfl ?_
    refine own_virt X5 20 (a := u) (argsL := []) (rest := []) d11_17 q0 (fun _ hZ => notFace_of_selects (args := #[]) (mvT hZ (ow hw 71 rfl))) (rm12 l Z n0 h0 [] a0 hw hWd X5.old u q1 ) (ow hw 68 rfl) (ow hw 69 rfl) (ow hw 71 rfl) (ow hw 70 rfl) (ow hw 6 rfl) (ow hw 72 rfl) (by decide) (lenOf pd__28_29Z rfl) rfl rfl rfl (W := 0) rfl (by decide) (by decide) (by decide) (by decide) all0 rfl ?_
    intro T6 h6 v6 X6 K6 hQ6
    obtain rfl := hQ6
    show OGo _ _ _ _ T6 (mkF m 20 #[.val (.ref u), .val (.int 0)] [(.int 1)])
    refine og_ifN X6 23 d11_20 (XT.i0_eq_f (by decide)) rfl ?_
    refine og_aloadN X6 24 d11_23 rfl rfl rfl ?_
    have f7 := q2.keep K6 nin0
    refine own_get X6 27 d11_24 (host := "") (Or.inl (ow hw 26 rfl)) Via.refl f7 rfl ?_
    intro T8 X9
    have f10 := f1.keep K6 nin0
    refine own_stat X9 30 (argsL := [(.ref t)]) (rest := []) d11_27 (rh_l1 l Z n0 h6 [] a0 hw hWd X9.old t kt x f10 ) (ow hw 73 rfl) (ow hw 74 rfl) (ow hw 11 rfl) (ow hw 75 rfl) (by decide) (lenOf pd__28_5bB_29I rfl) rfl rfl rfl (W := 0) rfl (by decide) (by decide) (by decide) (by decide) all0 rfl ?_
    intro T11 h11 v11 X11 K11 hQ11
    obtain rfl := hQ11
    show OGo _ _ _ _ T11 (mkF m 30 #[.val (.ref u), .val (.int 0)] [(.int (own_hc [x]))])
    refine og_goto X11 40 d11_30 (by decide) (by decide) ?_
    refine og_istoreN X11 41 #[.val (.ref u), .val (.int (own_hc [x]))] d11_40 rfl rfl ?_
    refine og_iloadN X11 42 d11_41 rfl rfl ?_
    by_cases hc12 : (own_hc [x]) = 0
    · -- (own_hc [x]) = 0
      refine og_ifN X11 45 d11_42 (XT.i0_ne_f hc12) rfl ?_
      refine og_aloadN X11 46 d11_45 rfl rfl rfl ?_
      refine og_iconst X11 47 (1 : Int32) d11_46 rfl rfl ?_
      have f13 := q4.keep K6 nin0
      have f14 := f13.keep K11 nin0
      have f15 := q0.keep K6
      have f16 := f15.keep K11
      have f17 := q1.keep K6 nin0
      have f18 := f17.keep K11 nin0
      have f19 := f7.keep K11 nin0
      have f20 := q3.keep K6 nin0
      have f21 := f20.keep K11 nin0
      refine own_put X11 50 d11_47 (host := "") (Or.inl (ow hw 66 rfl)) Via.refl f14 f16 (Or.inl (ow hw 67 rfl)) (ow hw 14 rfl) (ty := .boolean) (by decide) rfl rfl (om 0 rfl) rfl ?_
      intro T22 h22 X22 W22 K22 F22
      have f23 := Fld.other W22 f18 (Or.inr (slot_ne (Or.inr (ow hw 29 rfl)) (Or.inl (ow hw 67 rfl)) (by decide) (t := .byte) (t' := .boolean) (by decide) (by decide)))
      have f24 := Fld.other W22 f19 (Or.inr (slot_ne (Or.inr (ow hw 27 rfl)) (Or.inl (ow hw 67 rfl)) (by decide) (t := (.array .byte)) (t' := .boolean) (by decide) (by decide)))
      have f25 := Fld.other W22 f21 (Or.inr (slot_ne (Or.inl (ow hw 65 rfl)) (Or.inl (ow hw 67 rfl)) (by decide) (t := .int) (t' := .boolean) (by decide) (by decide)))
      refine og_goto X22 58 d11_50 (by decide) (by decide) ?_
      refine og_iloadN X22 59 d11_58 rfl rfl ?_
      refine own_retI X22 d11_59 hret (by decide) (by decide) ?_
      exact ⟨rfl, f23, f24, (by rw [hc12]; exact f25), (by rw [own_hzP hc12]; exact F22)⟩
    · -- not
      refine og_ifY X11 53 d11_42 (XT.i0_ne_t hc12) (by decide) (by decide) ?_
      refine og_aloadN X11 54 d11_53 rfl rfl rfl ?_
      refine og_iloadN X11 55 d11_54 rfl rfl ?_
      have f26 := q3.keep K6 nin0
      have f27 := f26.keep K11 nin0
      have f28 := q0.keep K6
      have f29 := f28.keep K11
      have f30 := q1.keep K6 nin0
      have f31 := f30.keep K11 nin0
      have f32 := f7.keep K11 nin0
      have f33 := q4.keep K6 nin0
      have f34 := f33.keep K11 nin0
      refine own_put X11 58 d11_55 (host := "") (Or.inl (ow hw 64 rfl)) Via.refl f27 f29 (Or.inl (ow hw 65 rfl)) (ow hw 14 rfl) (ty := .int) (by decide) rfl rfl (om 0 rfl) rfl ?_
      intro T35 h35 X35 W35 K35 F35
      have f36 := Fld.other W35 f31 (Or.inr (slot_ne (Or.inr (ow hw 29 rfl)) (Or.inl (ow hw 65 rfl)) (by decide) (t := .byte) (t' := .int) (by decide) (by decide)))
      have f37 := Fld.other W35 f32 (Or.inr (slot_ne (Or.inr (ow hw 27 rfl)) (Or.inl (ow hw 65 rfl)) (by decide) (t := (.array .byte)) (t' := .int) (by decide) (by decide)))
      have f38 := Fld.other W35 f34 (Or.inr (slot_ne (Or.inl (ow hw 67 rfl)) (Or.inl (ow hw 65 rfl)) (by decide) (t := .boolean) (t' := .int) (by decide) (by decide)))
      refine og_iloadN X35 59 d11_58 rfl rfl ?_
      refine own_retI X35 d11_59 hret (by decide) (by decide) ?_
      exact ⟨rfl, f36, f37, F35, (by rw [own_hzN hc12]; exact f38)⟩
  · -- 2
    have f39 : Arv Z h0 t kt .byte (2 : Int32) [(.int (StrChars.lo8 x)), (.int (StrChars.lo8 y))] (.int 0) := q6
    refine og_aloadN X0 1 d11_0 rfl rfl rfl ?_
    refine own_get X0 4 d11_1 (host := "") (Or.inl (ow hw 64 rfl)) Via.refl q3 rfl ?_
    intro T40 X41
    refine og_istoreN X41 5 #[.val (.ref u), .val (.int 0)] d11_4 rfl rfl ?_
    refine og_iloadN X41 6 d11_5 rfl rfl ?_
    refine og_ifN X41 9 d11_6 (XT.i0_ne_f (by decide)) rfl ?_
    refine og_aloadN X41 10 d11_9 rfl rfl rfl ?_
    refine own_get X41 13 d11_10 (host := "") (Or.inl (ow hw 66 rfl)) Via.refl q4 rfl ?_
    intro T42 X43
    refine og_ifN X43 16 d11_13 (XT.i0_ne_f (by decide)) rfl ?_
    refine og_aloadN X43 17 d11_16 rfl rfl rfl ?_
    refine own_virt X43 20 (a := u) (argsL := []) (rest := []) d11_17 q0 (fun _ hZ => notFace_of_selects (args := #[]) (mvT hZ (ow hw 71 rfl))) (rm12 l Z n0 h0 [] a0 hw hWd X43.old u q1 ) (ow hw 68 rfl) (ow hw 69 rfl) (ow hw 71 rfl) (ow hw 70 rfl) (ow hw 6 rfl) (ow hw 72 rfl) (by decide) (lenOf pd__28_29Z rfl) rfl rfl rfl (W := 0) rfl (by decide) (by decide) (by decide) (by decide) all0 rfl ?_
    intro T44 h44 v44 X44 K44 hQ44
    obtain rfl := hQ44
    show OGo _ _ _ _ T44 (mkF m 20 #[.val (.ref u), .val (.int 0)] [(.int 1)])
    refine og_ifN X44 23 d11_20 (XT.i0_eq_f (by decide)) rfl ?_
    refine og_aloadN X44 24 d11_23 rfl rfl rfl ?_
    have f45 := q2.keep K44 nin0
    refine own_get X44 27 d11_24 (host := "") (Or.inl (ow hw 26 rfl)) Via.refl f45 rfl ?_
    intro T46 X47
    have f48 := q5.keep K44
    have f49 := f39.keep K44 nin0
    refine own_stat X47 30 (argsL := [(.ref t)]) (rest := []) d11_27 (rh_l2 l Z n0 h44 [] a0 hw hWd X47.old t kt x y f48 f49 ) (ow hw 73 rfl) (ow hw 74 rfl) (ow hw 11 rfl) (ow hw 75 rfl) (by decide) (lenOf pd__28_5bB_29I rfl) rfl rfl rfl (W := 0) rfl (by decide) (by decide) (by decide) (by decide) all0 rfl ?_
    intro T50 h50 v50 X50 K50 hQ50
    obtain rfl := hQ50
    show OGo _ _ _ _ T50 (mkF m 30 #[.val (.ref u), .val (.int 0)] [(.int (own_hc [x, y]))])
    refine og_goto X50 40 d11_30 (by decide) (by decide) ?_
    refine og_istoreN X50 41 #[.val (.ref u), .val (.int (own_hc [x, y]))] d11_40 rfl rfl ?_
    refine og_iloadN X50 42 d11_41 rfl rfl ?_
    by_cases hc51 : (own_hc [x, y]) = 0
    · -- (own_hc [x, y]) = 0
      refine og_ifN X50 45 d11_42 (XT.i0_ne_f hc51) rfl ?_
      refine og_aloadN X50 46 d11_45 rfl rfl rfl ?_
      refine og_iconst X50 47 (1 : Int32) d11_46 rfl rfl ?_
      have f52 := q4.keep K44 nin0
      have f53 := f52.keep K50 nin0
      have f54 := q0.keep K44
      have f55 := f54.keep K50
      have f56 := q1.keep K44 nin0
      have f57 := f56.keep K50 nin0
      have f58 := f45.keep K50 nin0
      have f59 := q3.keep K44 nin0
      have f60 := f59.keep K50 nin0
      refine own_put X50 50 d11_47 (host := "") (Or.inl (ow hw 66 rfl)) Via.refl f53 f55 (Or.inl (ow hw 67 rfl)) (ow hw 14 rfl) (ty := .boolean) (by decide) rfl rfl (om 0 rfl) rfl ?_
      intro T61 h61 X61 W61 K61 F61
      have f62 := Fld.other W61 f57 (Or.inr (slot_ne (Or.inr (ow hw 29 rfl)) (Or.inl (ow hw 67 rfl)) (by decide) (t := .byte) (t' := .boolean) (by decide) (by decide)))
      have f63 := Fld.other W61 f58 (Or.inr (slot_ne (Or.inr (ow hw 27 rfl)) (Or.inl (ow hw 67 rfl)) (by decide) (t := (.array .byte)) (t' := .boolean) (by decide) (by decide)))
      have f64 := Fld.other W61 f60 (Or.inr (slot_ne (Or.inl (ow hw 65 rfl)) (Or.inl (ow hw 67 rfl)) (by decide) (t := .int) (t' := .boolean) (by decide) (by decide)))
      refine og_goto X61 58 d11_50 (by decide) (by decide) ?_
      refine og_iloadN X61 59 d11_58 rfl rfl ?_
      refine own_retI X61 d11_59 hret (by decide) (by decide) ?_
      exact ⟨rfl, f62, f63, (by rw [hc51]; exact f64), (by rw [own_hzP hc51]; exact F61)⟩
    · -- not
      refine og_ifY X50 53 d11_42 (XT.i0_ne_t hc51) (by decide) (by decide) ?_
      refine og_aloadN X50 54 d11_53 rfl rfl rfl ?_
      refine og_iloadN X50 55 d11_54 rfl rfl ?_
      have f65 := q3.keep K44 nin0
      have f66 := f65.keep K50 nin0
      have f67 := q0.keep K44
      have f68 := f67.keep K50
      have f69 := q1.keep K44 nin0
      have f70 := f69.keep K50 nin0
      have f71 := f45.keep K50 nin0
      have f72 := q4.keep K44 nin0
      have f73 := f72.keep K50 nin0
      refine own_put X50 58 d11_55 (host := "") (Or.inl (ow hw 64 rfl)) Via.refl f66 f68 (Or.inl (ow hw 65 rfl)) (ow hw 14 rfl) (ty := .int) (by decide) rfl rfl (om 0 rfl) rfl ?_
      intro T74 h74 X74 W74 K74 F74
      have f75 := Fld.other W74 f70 (Or.inr (slot_ne (Or.inr (ow hw 29 rfl)) (Or.inl (ow hw 65 rfl)) (by decide) (t := .byte) (t' := .int) (by decide) (by decide)))
      have f76 := Fld.other W74 f71 (Or.inr (slot_ne (Or.inr (ow hw 27 rfl)) (Or.inl (ow hw 65 rfl)) (by decide) (t := (.array .byte)) (t' := .int) (by decide) (by decide)))
      have f77 := Fld.other W74 f73 (Or.inr (slot_ne (Or.inl (ow hw 67 rfl)) (Or.inl (ow hw 65 rfl)) (by decide) (t := .boolean) (t' := .int) (by decide) (by decide)))
      refine og_iloadN X74 59 d11_58 rfl rfl ?_
      refine own_retI X74 d11_59 hret (by decide) (by decide) ?_
      exact ⟨rfl, f75, f76, F74, (by rw [own_hzN hc51]; exact f77)⟩
theorem rh_again (a0 : Array Value) (hw : OHw a0 Z) (hWd : OWorld Z a0) (O0 : Old Z n0 h0) (u : Addr) (t : Addr) (kt : ClassId) (cs : List Int32) (q0 : Exa Z h0 u "java/lang/String") (q1 : Fld Z h0 u "java/lang/String" "coder" "B" (.int 0)) (q2 : Fld Z h0 u "java/lang/String" "value" "[B" (.ref t)) (q3 : Fld Z h0 u "java/lang/String" "hash" "I" (.int (own_hc cs))) (q4 : Fld Z h0 u "java/lang/String" "hashIsZero" "Z" (.int (own_hz cs))) (q5 : Exa Z h0 t "[B") (q6 : Arv Z h0 t kt .byte (Int32.ofNat (cs).length) ((cs).map fun c => Value.int (StrChars.lo8 c)) (.int 0)) (q7 : own_good cs) :
    OMet l Z own_EL n0 yN14 (Jvm.Cond.code yN14 jdk_42_method_78_code 2 (some .int) :: wc) ({ frames := 0, cells := 0, slots := 0, locals := 0 } : Room) #[(.ref u)] h0 [] (fun vq hq => vq = some (.int (own_hc cs))) := by
  refine own_enter #[.val (.ref u), .unset] pn_java_lang_String_hashCode___I (ef_rh_again u t kt cs) hWd.1 O0 all0 ?_
  intro p e s m below meth c T0 X0 hnm hret
  refine og_aloadN X0 1 d11_0 rfl rfl rfl ?_
  refine own_get X0 4 d11_1 (host := "") (Or.inl (ow hw 64 rfl)) Via.refl q3 rfl ?_
  intro T1 X2
  refine og_istoreN X2 5 #[.val (.ref u), .val (.int (own_hc cs))] d11_4 rfl rfl ?_
  refine og_iloadN X2 6 d11_5 rfl rfl ?_
  by_cases hc3 : (own_hc cs) = 0
  · -- (own_hc cs) = 0
    refine og_ifN X2 9 d11_6 (XT.i0_ne_f hc3) rfl ?_
    refine og_aloadN X2 10 d11_9 rfl rfl rfl ?_
    refine own_get X2 13 d11_10 (host := "") (Or.inl (ow hw 66 rfl)) Via.refl q4 rfl ?_
    intro T4 X5
    refine og_ifY X5 58 d11_13 (XT.i0_ne_t (own_hzQ hc3)) (by decide) (by decide) ?_
    refine og_iloadN X5 59 d11_58 rfl rfl ?_
    refine own_retI X5 d11_59 hret (by decide) (by decide) ?_
    exact rfl
  · -- not
    refine og_ifY X2 58 d11_6 (XT.i0_ne_t hc3) (by decide) (by decide) ?_
    refine og_iloadN X2 59 d11_58 rfl rfl ?_
    refine own_retI X2 d11_59 hret (by decide) (by decide) ?_
    exact rfl
theorem rh_pf (a0 : Array Value) (hw : OHw a0 Z) (hWd : OWorld Z a0) (O0 : Old Z n0 h0) (u : Addr) (t : Addr) (kt : ClassId) (cs : List Int32) (q0 : Exa Z h0 u "java/lang/String") (q1 : Fld Z h0 u "java/lang/String" "coder" "B" (.int 0)) (q2 : Fld Z h0 u "java/lang/String" "value" "[B" (.ref t)) (q3 : Fld Z h0 u "java/lang/String" "hash" "I" (.int 0)) (q4 : Fld Z h0 u "java/lang/String" "hashIsZero" "Z" (.int 0)) (q5 : Exa Z h0 t "[B") (q6 : Arv Z h0 t kt .byte (Int32.ofNat (cs).length) ((cs).map fun c => Value.int (StrChars.lo8 c)) (.int 0)) (q7 : own_good cs) (g0 : n0 ≤ u ∧ u < h0.size) :
    OMet l Z own_EL n0 yN15 (Jvm.Cond.code yN15 prog_64_method_11_code 2 (some .int) :: wc) ({ frames := 4, cells := 0, slots := 0, locals := 58 } : Room) #[(.ref u)] h0 [u] (fun vq hq => vq = some (.int (own_hh cs)) ∧ Fld Z hq u "java/lang/String" "coder" "B" (.int 0) ∧ Fld Z hq u "java/lang/String" "value" "[B" (.ref t) ∧ Fld Z hq u "java/lang/String" "hash" "I" (.int (own_hc cs)) ∧ Fld Z hq u "java/lang/String" "hashIsZero" "Z" (.int (own_hz cs))) := by
  refine own_enter #[.val (.ref u), .unset] pn_com_example_ratable_ratable_core_PostedById_hash__Ljava_lang_String__I (ef_rh_pf u t kt cs) hWd.1 O0 (allS g0 all0) ?_
  intro p e s m below meth c T0 X0 hnm hret
  refine og_aloadN X0 1 d10_0 rfl rfl rfl ?_
  refine own_virt X0 4 (a := u) (argsL := []) (rest := []) d10_1 q0 (fun _ hZ => notFace_of_selects (args := #[]) (mvT hZ (ow hw 62 rfl))) (rh_first l Z n0 h0 [] a0 hw hWd X0.old u t kt cs q0 q1 q2 q3 q4 q5 q6 q7 (own_svb X0 (om 0 rfl))) (ow hw 59 rfl) (ow hw 60 rfl) (ow hw 62 rfl) (ow hw 61 rfl) (ow hw 6 rfl) (ow hw 63 rfl) (by decide) (lenOf pd__28_29I rfl) rfl rfl rfl (W := 0) rfl (by decide) (by decide) (by decide) (by decide) (allS (om 0 rfl) all0) rfl ?_
  intro T1 h1 v1 X1 K1 hQ1
  obtain ⟨rfl, f2, f3, f4, f5⟩ := hQ1
  show OGo _ _ _ _ T1 (mkF m 4 #[.val (.ref u), .unset] [(.int (own_hc cs))])
  refine og_istoreN X1 5 #[.val (.ref u), .val (.int (own_hc cs))] d10_4 rfl rfl ?_
  refine og_iloadN X1 6 d10_5 rfl rfl ?_
  refine og_iloadN X1 7 d10_6 rfl rfl ?_
  refine og_bipush X1 9 (16 : Int32) d10_7 rfl rfl ?_
  refine og_iushr X1 10 d10_9 rfl ?_
  refine og_ixor X1 11 d10_10 rfl ?_
  refine own_retI X1 d10_11 hret (by decide) (by decide) ?_
  exact ⟨rfl, f2, f3, f4, f5⟩
theorem rh_pa (a0 : Array Value) (hw : OHw a0 Z) (hWd : OWorld Z a0) (O0 : Old Z n0 h0) (u : Addr) (t : Addr) (kt : ClassId) (cs : List Int32) (q0 : Exa Z h0 u "java/lang/String") (q1 : Fld Z h0 u "java/lang/String" "coder" "B" (.int 0)) (q2 : Fld Z h0 u "java/lang/String" "value" "[B" (.ref t)) (q3 : Fld Z h0 u "java/lang/String" "hash" "I" (.int (own_hc cs))) (q4 : Fld Z h0 u "java/lang/String" "hashIsZero" "Z" (.int (own_hz cs))) (q5 : Exa Z h0 t "[B") (q6 : Arv Z h0 t kt .byte (Int32.ofNat (cs).length) ((cs).map fun c => Value.int (StrChars.lo8 c)) (.int 0)) (q7 : own_good cs) :
    OMet l Z own_EL n0 yN15 (Jvm.Cond.code yN15 prog_64_method_11_code 2 (some .int) :: wc) ({ frames := 1, cells := 0, slots := 0, locals := 13 } : Room) #[(.ref u)] h0 [] (fun vq hq => vq = some (.int (own_hh cs))) := by
  refine own_enter #[.val (.ref u), .unset] pn_com_example_ratable_ratable_core_PostedById_hash__Ljava_lang_String__I (ef_rh_pa u t kt cs) hWd.1 O0 all0 ?_
  intro p e s m below meth c T0 X0 hnm hret
  refine og_aloadN X0 1 d10_0 rfl rfl rfl ?_
  refine own_virt X0 4 (a := u) (argsL := []) (rest := []) d10_1 q0 (fun _ hZ => notFace_of_selects (args := #[]) (mvT hZ (ow hw 62 rfl))) (rh_again l Z n0 h0 [] a0 hw hWd X0.old u t kt cs q0 q1 q2 q3 q4 q5 q6 q7 ) (ow hw 59 rfl) (ow hw 60 rfl) (ow hw 62 rfl) (ow hw 61 rfl) (ow hw 6 rfl) (ow hw 63 rfl) (by decide) (lenOf pd__28_29I rfl) rfl rfl rfl (W := 0) rfl (by decide) (by decide) (by decide) (by decide) all0 rfl ?_
  intro T1 h1 v1 X1 K1 hQ1
  obtain rfl := hQ1
  show OGo _ _ _ _ T1 (mkF m 4 #[.val (.ref u), .unset] [(.int (own_hc cs))])
  refine og_istoreN X1 5 #[.val (.ref u), .val (.int (own_hc cs))] d10_4 rfl rfl ?_
  refine og_iloadN X1 6 d10_5 rfl rfl ?_
  refine og_iloadN X1 7 d10_6 rfl rfl ?_
  refine og_bipush X1 9 (16 : Int32) d10_7 rfl rfl ?_
  refine og_iushr X1 10 d10_9 rfl ?_
  refine og_ixor X1 11 d10_10 rfl ?_
  refine own_retI X1 d10_11 hret (by decide) (by decide) ?_
  exact rfl
theorem rs_4 (a0 : Array Value) (hw : OHw a0 Z) (hWd : OWorld Z a0) (O0 : Old Z n0 h0) (a : Addr) (q0 : Exa Z h0 a "com/example/ratable/ratable/core/Posted$Sums") (q1 : Fld Z h0 a "com/example/ratable/ratable/core/Posted$Sums" "keys" "[Ljava/lang/Object;" .null) (q2 : Fld Z h0 a "com/example/ratable/ratable/core/Posted$Sums" "units" "[J" .null) (q3 : Fld Z h0 a "com/example/ratable/ratable/core/Posted$Sums" "opened" "[Ljava/time/LocalDate;" .null) (g0 : n0 ≤ a ∧ a < h0.size) :
    OMet l Z own_EL n0 yN16 (Jvm.Cond.code yN16 prog_63_method_1_code 2 none :: wc) ({ frames := 1, cells := 3, slots := 16, locals := 12 } : Room) #[(.ref a), (.int 4)] h0 [a] (fun vq hq => vq = none) := by
  refine own_enter #[.val (.ref a), .val (.int 4)] pn_com_example_ratable_ratable_core_Posted_Sums__init___I_V (ef_rs_4 a) hWd.1 O0 (allS g0 all0) ?_
  intro p e s m below meth c T0 X0 hnm hret
  refine og_aloadN X0 1 d15_0 rfl rfl rfl ?_
  refine own_obj0 X0 4 (a := a) d15_1 (ow hw 88 rfl) (ow hw 24 rfl) (ow hw 25 rfl) rfl (W := 0) rfl (by decide) (by decide) rfl ?_
  intro T1 X2
  refine og_aloadN X2 5 d15_4 rfl rfl rfl ?_
  refine og_iconst X2 6 (2 : Int32) d15_5 rfl rfl ?_
  refine og_iloadN X2 7 d15_6 rfl rfl ?_
  refine og_imul X2 8 d15_7 rfl ?_
  show OGo _ _ _ _ T1 (mkF m 8 #[.val (.ref a), .val (.int 4)] [(.int 8), (.ref a)])
  refine own_anew X2 11 d15_8 (ow hw 89 rfl) (ow hw 90 rfl) (by decide) (cap := 8) (by decide) (by decide) (by decide) (by decide) rfl ?_
  intro T3 h3 b3 kb3 X3 K3 G3 U3 A3 O3
  have f4 : Arv Z h3 b3 kb3 (.object "java/lang/Object") (8 : Int32) [.null, .null, .null, .null, .null, .null, .null, .null] .null := A3
  have f5 := q1.keep K3 nin0
  have f6 := q0.keep K3
  have f7 := q2.keep K3 nin0
  have f8 := q3.keep K3 nin0
  refine own_put X3 14 d15_11 (host := "") (Or.inl (ow hw 91 rfl)) Via.refl f5 f6 (Or.inl (ow hw 92 rfl)) (ow hw 83 rfl) (ty := (.array (.object "java/lang/Object"))) (by decide) rfl rfl (om 1 rfl) rfl ?_
  intro T9 h9 X9 W9 K9 F9
  have f10 := Fld.other W9 f7 (Or.inr (slot_ne (Or.inl (ow hw 95 rfl)) (Or.inl (ow hw 92 rfl)) (by decide) (t := (.array .long)) (t' := (.array (.object "java/lang/Object"))) (by decide) (by decide)))
  have f11 := Fld.other W9 f8 (Or.inr (slot_ne (Or.inl (ow hw 99 rfl)) (Or.inl (ow hw 92 rfl)) (by decide) (t := (.array (.object "java/time/LocalDate"))) (t' := (.array (.object "java/lang/Object"))) (by decide) (by decide)))
  refine og_aloadN X9 15 d15_14 rfl rfl rfl ?_
  refine og_iloadN X9 16 d15_15 rfl rfl ?_
  refine own_arrE X9 18 (ad := "[J") d15_16 (ow hw 93 rfl) (by decide) (cap := 4) (by decide) (by decide) (by decide) (by decide) (by decide) rfl ?_
  intro T12 h12 b12 kb12 X12 K12 G12 U12 A12 E12
  have f13 : Arv Z h12 b12 kb12 .long (4 : Int32) [(.long (0 : Int64)), (.long (0 : Int64)), (.long (0 : Int64)), (.long (0 : Int64))] (.long (0 : Int64)) := A12
  have f14 := f10.keep K12 nin0
  have f15 := f6.keep K9
  have f16 := f15.keep K12
  have f17 := F9.keep K12 nin0
  have f18 := f11.keep K12 nin0
  refine own_put X12 21 d15_18 (host := "") (Or.inl (ow hw 94 rfl)) Via.refl f14 f16 (Or.inl (ow hw 95 rfl)) (ow hw 83 rfl) (ty := (.array .long)) (by decide) rfl rfl (om 2 rfl) rfl ?_
  intro T19 h19 X19 W19 K19 F19
  have f20 := Fld.other W19 f17 (Or.inr (slot_ne (Or.inl (ow hw 92 rfl)) (Or.inl (ow hw 95 rfl)) (by decide) (t := (.array (.object "java/lang/Object"))) (t' := (.array .long)) (by decide) (by decide)))
  have f21 := Fld.other W19 f18 (Or.inr (slot_ne (Or.inl (ow hw 99 rfl)) (Or.inl (ow hw 95 rfl)) (by decide) (t := (.array (.object "java/time/LocalDate"))) (t' := (.array .long)) (by decide) (by decide)))
  refine og_aloadN X19 22 d15_21 rfl rfl rfl ?_
  refine og_iloadN X19 23 d15_22 rfl rfl ?_
  refine own_anew X19 26 d15_23 (ow hw 96 rfl) (ow hw 97 rfl) (by decide) (cap := 4) (by decide) (by decide) (by decide) (by decide) rfl ?_
  intro T22 h22 b22 kb22 X22 K22 G22 U22 A22 O22
  have f23 : Arv Z h22 b22 kb22 (.object "java/time/LocalDate") (4 : Int32) [.null, .null, .null, .null] .null := A22
  have f24 := f21.keep K22 nin0
  have f25 := f16.keep K19
  have f26 := f25.keep K22
  have f27 := f20.keep K22 nin0
  have f28 := F19.keep K22 nin0
  refine own_put X22 29 d15_26 (host := "") (Or.inl (ow hw 98 rfl)) Via.refl f24 f26 (Or.inl (ow hw 99 rfl)) (ow hw 83 rfl) (ty := (.array (.object "java/time/LocalDate"))) (by decide) rfl rfl (om 3 rfl) rfl ?_
  intro T29 h29 X29 W29 K29 F29
  have f30 := Fld.other W29 f27 (Or.inr (slot_ne (Or.inl (ow hw 92 rfl)) (Or.inl (ow hw 99 rfl)) (by decide) (t := (.array (.object "java/lang/Object"))) (t' := (.array (.object "java/time/LocalDate"))) (by decide) (by decide)))
  have f31 := Fld.other W29 f28 (Or.inr (slot_ne (Or.inl (ow hw 95 rfl)) (Or.inl (ow hw 99 rfl)) (by decide) (t := (.array .long)) (t' := (.array (.object "java/time/LocalDate"))) (by decide) (by decide)))
  refine own_retV X29 d15_29 hret (by decide) (by decide) ?_
  exact rfl
theorem rs_1 (a0 : Array Value) (hw : OHw a0 Z) (hWd : OWorld Z a0) (O0 : Old Z n0 h0) (a : Addr) (q0 : Exa Z h0 a "com/example/ratable/ratable/core/Posted$Sums") (q1 : Fld Z h0 a "com/example/ratable/ratable/core/Posted$Sums" "keys" "[Ljava/lang/Object;" .null) (q2 : Fld Z h0 a "com/example/ratable/ratable/core/Posted$Sums" "units" "[J" .null) (q3 : Fld Z h0 a "com/example/ratable/ratable/core/Posted$Sums" "opened" "[Ljava/time/LocalDate;" .null) (g0 : n0 ≤ a ∧ a < h0.size) :
    OMet l Z own_EL n0 yN16 (Jvm.Cond.code yN16 prog_63_method_1_code 2 none :: wc) ({ frames := 1, cells := 3, slots := 4, locals := 12 } : Room) #[(.ref a), (.int 1)] h0 [a] (fun vq hq => vq = none) := by
  refine own_enter #[.val (.ref a), .val (.int 1)] pn_com_example_ratable_ratable_core_Posted_Sums__init___I_V (ef_rs_1 a) hWd.1 O0 (allS g0 all0) ?_
  intro p e s m below meth c T0 X0 hnm hret
  refine og_aloadN X0 1 d15_0 rfl rfl rfl ?_
  refine own_obj0 X0 4 (a := a) d15_1 (ow hw 88 rfl) (ow hw 24 rfl) (ow hw 25 rfl) rfl (W := 0) rfl (by decide) (by decide) rfl ?_
  intro T1 X2
  refine og_aloadN X2 5 d15_4 rfl rfl rfl ?_
  refine og_iconst X2 6 (2 : Int32) d15_5 rfl rfl ?_
  refine og_iloadN X2 7 d15_6 rfl rfl ?_
  refine og_imul X2 8 d15_7 rfl ?_
  show OGo _ _ _ _ T1 (mkF m 8 #[.val (.ref a), .val (.int 1)] [(.int 2), (.ref a)])
  refine own_anew X2 11 d15_8 (ow hw 89 rfl) (ow hw 90 rfl) (by decide) (cap := 2) (by decide) (by decide) (by decide) (by decide) rfl ?_
  intro T3 h3 b3 kb3 X3 K3 G3 U3 A3 O3
  have f4 : Arv Z h3 b3 kb3 (.object "java/lang/Object") (2 : Int32) [.null, .null] .null := A3
  have f5 := q1.keep K3 nin0
  have f6 := q0.keep K3
  have f7 := q2.keep K3 nin0
  have f8 := q3.keep K3 nin0
  refine own_put X3 14 d15_11 (host := "") (Or.inl (ow hw 91 rfl)) Via.refl f5 f6 (Or.inl (ow hw 92 rfl)) (ow hw 83 rfl) (ty := (.array (.object "java/lang/Object"))) (by decide) rfl rfl (om 1 rfl) rfl ?_
  intro T9 h9 X9 W9 K9 F9
  have f10 := Fld.other W9 f7 (Or.inr (slot_ne (Or.inl (ow hw 95 rfl)) (Or.inl (ow hw 92 rfl)) (by decide) (t := (.array .long)) (t' := (.array (.object "java/lang/Object"))) (by decide) (by decide)))
  have f11 := Fld.other W9 f8 (Or.inr (slot_ne (Or.inl (ow hw 99 rfl)) (Or.inl (ow hw 92 rfl)) (by decide) (t := (.array (.object "java/time/LocalDate"))) (t' := (.array (.object "java/lang/Object"))) (by decide) (by decide)))
  refine og_aloadN X9 15 d15_14 rfl rfl rfl ?_
  refine og_iloadN X9 16 d15_15 rfl rfl ?_
  refine own_arrE X9 18 (ad := "[J") d15_16 (ow hw 93 rfl) (by decide) (cap := 1) (by decide) (by decide) (by decide) (by decide) (by decide) rfl ?_
  intro T12 h12 b12 kb12 X12 K12 G12 U12 A12 E12
  have f13 : Arv Z h12 b12 kb12 .long (1 : Int32) [(.long (0 : Int64))] (.long (0 : Int64)) := A12
  have f14 := f10.keep K12 nin0
  have f15 := f6.keep K9
  have f16 := f15.keep K12
  have f17 := F9.keep K12 nin0
  have f18 := f11.keep K12 nin0
  refine own_put X12 21 d15_18 (host := "") (Or.inl (ow hw 94 rfl)) Via.refl f14 f16 (Or.inl (ow hw 95 rfl)) (ow hw 83 rfl) (ty := (.array .long)) (by decide) rfl rfl (om 2 rfl) rfl ?_
  intro T19 h19 X19 W19 K19 F19
  have f20 := Fld.other W19 f17 (Or.inr (slot_ne (Or.inl (ow hw 92 rfl)) (Or.inl (ow hw 95 rfl)) (by decide) (t := (.array (.object "java/lang/Object"))) (t' := (.array .long)) (by decide) (by decide)))
  have f21 := Fld.other W19 f18 (Or.inr (slot_ne (Or.inl (ow hw 99 rfl)) (Or.inl (ow hw 95 rfl)) (by decide) (t := (.array (.object "java/time/LocalDate"))) (t' := (.array .long)) (by decide) (by decide)))
  refine og_aloadN X19 22 d15_21 rfl rfl rfl ?_
  refine og_iloadN X19 23 d15_22 rfl rfl ?_
  refine own_anew X19 26 d15_23 (ow hw 96 rfl) (ow hw 97 rfl) (by decide) (cap := 1) (by decide) (by decide) (by decide) (by decide) rfl ?_
  intro T22 h22 b22 kb22 X22 K22 G22 U22 A22 O22
  have f23 : Arv Z h22 b22 kb22 (.object "java/time/LocalDate") (1 : Int32) [.null] .null := A22
  have f24 := f21.keep K22 nin0
  have f25 := f16.keep K19
  have f26 := f25.keep K22
  have f27 := f20.keep K22 nin0
  have f28 := F19.keep K22 nin0
  refine own_put X22 29 d15_26 (host := "") (Or.inl (ow hw 98 rfl)) Via.refl f24 f26 (Or.inl (ow hw 99 rfl)) (ow hw 83 rfl) (ty := (.array (.object "java/time/LocalDate"))) (by decide) rfl rfl (om 3 rfl) rfl ?_
  intro T29 h29 X29 W29 K29 F29
  have f30 := Fld.other W29 f27 (Or.inr (slot_ne (Or.inl (ow hw 92 rfl)) (Or.inl (ow hw 99 rfl)) (by decide) (t := (.array (.object "java/lang/Object"))) (t' := (.array (.object "java/time/LocalDate"))) (by decide) (by decide)))
  have f31 := Fld.other W29 f28 (Or.inr (slot_ne (Or.inl (ow hw 95 rfl)) (Or.inl (ow hw 99 rfl)) (by decide) (t := (.array .long)) (t' := (.array (.object "java/time/LocalDate"))) (by decide) (by decide)))
  refine own_retV X29 d15_29 hret (by decide) (by decide) ?_
  exact rfl
theorem rm14 (a0 : Array Value) (hw : OHw a0 Z) (hWd : OWorld Z a0) (O0 : Old Z n0 h0) (a : Addr) (u : Addr) (t : Addr) (kt : ClassId) (cs : List Int32) (q0 : Exa Z h0 a "com/example/ratable/ratable/core/Posted") (q1 : Fld Z h0 a "com/example/ratable/ratable/core/Posted" "balances" "Lcom/example/ratable/ratable/core/Posted$Sums;" .null) (q2 : Fld Z h0 a "com/example/ratable/ratable/core/Posted" "invoices" "Lcom/example/ratable/ratable/core/Posted$Sums;" .null) (q3 : Fld Z h0 a "com/example/ratable/ratable/core/Posted" "id" "Ljava/lang/String;" .null) (q4 : Fld Z h0 a "com/example/ratable/ratable/core/Posted" "hash" "I" (.int 0)) (q5 : Fld Z h0 a "com/example/ratable/ratable/core/Posted" "chained" "Lcom/example/ratable/ratable/core/Posted;" .null) (q6 : Exa Z h0 u "java/lang/String") (q7 : Fld Z h0 u "java/lang/String" "coder" "B" (.int 0)) (q8 : Fld Z h0 u "java/lang/String" "value" "[B" (.ref t)) (q9 : Fld Z h0 u "java/lang/String" "hash" "I" (.int (own_hc cs))) (q10 : Fld Z h0 u "java/lang/String" "hashIsZero" "Z" (.int (own_hz cs))) (q11 : Exa Z h0 t "[B") (q12 : Arv Z h0 t kt .byte (Int32.ofNat (cs).length) ((cs).map fun c => Value.int (StrChars.lo8 c)) (.int 0)) (q13 : own_good cs) (g0 : n0 ≤ a ∧ a < h0.size) :
    OMet l Z own_EL n0 yN17 (Jvm.Cond.code yN17 prog_62_method_1_code 2 none :: wc) ({ frames := 2, cells := 8, slots := 30, locals := 27 } : Room) #[(.ref a), (.ref u)] h0 [a] (fun vq hq => vq = none ∧ Fld Z hq a "com/example/ratable/ratable/core/Posted" "id" "Ljava/lang/String;" (.ref u) ∧ Fld Z hq a "com/example/ratable/ratable/core/Posted" "hash" "I" (.int (own_hh cs)) ∧ Fld Z hq a "com/example/ratable/ratable/core/Posted" "chained" "Lcom/example/ratable/ratable/core/Posted;" .null) := by
  refine own_enter #[.val (.ref a), .val (.ref u)] pn_com_example_ratable_ratable_core_Posted__init___Ljava_lang_String__V (ef_rm14 a u t kt cs) hWd.1 O0 (allS g0 all0) ?_
  intro p e s m below meth c T0 X0 hnm hret
  refine og_aloadN X0 1 d14_0 rfl rfl rfl ?_
  refine own_obj0 X0 4 (a := a) d14_1 (ow hw 81 rfl) (ow hw 24 rfl) (ow hw 25 rfl) rfl (W := 0) rfl (by decide) (by decide) rfl ?_
  intro T1 X2
  refine og_aloadN X2 5 d14_4 rfl rfl rfl ?_
  refine own_new X2 8 d14_5 (ow hw 82 rfl) (ow hw 83 rfl) (ow hw 84 rfl) (by decide) (by decide) rfl ?_
  intro T3 h3 b3 X3 K3 G3 U3 E3 D3
  have f4 : Fld Z h3 b3 "com/example/ratable/ratable/core/Posted$Sums" "keys" "[Ljava/lang/Object;" .null := D3 (Or.inl (ow hw 92 rfl)) (ty := (.array (.object "java/lang/Object"))) (by decide)
  have f5 : Fld Z h3 b3 "com/example/ratable/ratable/core/Posted$Sums" "units" "[J" .null := D3 (Or.inl (ow hw 95 rfl)) (ty := (.array .long)) (by decide)
  have f6 : Fld Z h3 b3 "com/example/ratable/ratable/core/Posted$Sums" "opened" "[Ljava/time/LocalDate;" .null := D3 (Or.inl (ow hw 99 rfl)) (ty := (.array (.object "java/time/LocalDate"))) (by decide)
  refine og_dup X3 9 d14_8 rfl rfl ?_
  refine og_iconst X3 10 (4 : Int32) d14_9 rfl rfl ?_
  refine own_spec X3 13 (a := b3) (argsL := [(.int 4)]) (rest := [(.ref b3), (.ref a)]) d14_10 rfl (rs_4 l Z n0 h3 [] a0 hw hWd X3.old b3 E3 f4 f5 f6 (own_svb X3 (om 0 rfl))) (ow hw 85 rfl) (ow hw 86 rfl) (ow hw 84 rfl) (ow hw 87 rfl) (by decide) (lenOf pd__28I_29V rfl) rfl rfl rfl (W := 2) rfl (by decide) (by decide) (by decide) (by decide) (allS (om 0 rfl) all0) rfl ?_
  intro T7 h7 v7 X7 K7 hQ7
  obtain rfl := hQ7
  show OGo _ _ _ _ T7 (mkF m 13 #[.val (.ref a), .val (.ref u)] [(.ref b3), (.ref a)])
  have f8 := q1.keep K3 nin0
  have f9 := f8.keep K7 (ninS (Nat.ne_of_lt (Nat.lt_of_lt_of_le q0.lt G3)) nin0)
  have f10 := q0.keep K3
  have f11 := f10.keep K7
  have f12 := q2.keep K3 nin0
  have f13 := f12.keep K7 (ninS (Nat.ne_of_lt (Nat.lt_of_lt_of_le q0.lt G3)) nin0)
  have f14 := q3.keep K3 nin0
  have f15 := f14.keep K7 (ninS (Nat.ne_of_lt (Nat.lt_of_lt_of_le q0.lt G3)) nin0)
  have f16 := q4.keep K3 nin0
  have f17 := f16.keep K7 (ninS (Nat.ne_of_lt (Nat.lt_of_lt_of_le q0.lt G3)) nin0)
  have f18 := q5.keep K3 nin0
  have f19 := f18.keep K7 (ninS (Nat.ne_of_lt (Nat.lt_of_lt_of_le q0.lt G3)) nin0)
  refine own_put X7 16 d14_13 (host := "") (Or.inl (ow hw 100 rfl)) Via.refl f9 f11 (Or.inr ⟨(ow hw 101 rfl), rfl, hnm⟩) (ow hw 76 rfl) (ty := (.object "com/example/ratable/ratable/core/Posted$Sums")) (by decide) rfl rfl (om 1 rfl) rfl ?_
  intro T20 h20 X20 W20 K20 F20
  have f21 := Fld.other W20 f13 (Or.inr (slot_ne (Or.inr (ow hw 103 rfl)) (Or.inr (ow hw 101 rfl)) (by decide) (t := (.object "com/example/ratable/ratable/core/Posted$Sums")) (t' := (.object "com/example/ratable/ratable/core/Posted$Sums")) (by decide) (by decide)))
  have f22 := Fld.other W20 f15 (Or.inr (slot_ne (Or.inr (ow hw 105 rfl)) (Or.inr (ow hw 101 rfl)) (by decide) (t := (.object "java/lang/String")) (t' := (.object "com/example/ratable/ratable/core/Posted$Sums")) (by decide) (by decide)))
  have f23 := Fld.other W20 f17 (Or.inr (slot_ne (Or.inr (ow hw 108 rfl)) (Or.inr (ow hw 101 rfl)) (by decide) (t := .int) (t' := (.object "com/example/ratable/ratable/core/Posted$Sums")) (by decide) (by decide)))
  have f24 := Fld.other W20 f19 (Or.inr (slot_ne (Or.inl (ow hw 121 rfl)) (Or.inr (ow hw 101 rfl)) (by decide) (t := (.object "com/example/ratable/ratable/core/Posted")) (t' := (.object "com/example/ratable/ratable/core/Posted$Sums")) (by decide) (by decide)))
  refine og_aloadN X20 17 d14_16 rfl rfl rfl ?_
  refine own_new X20 20 d14_17 (ow hw 82 rfl) (ow hw 83 rfl) (ow hw 84 rfl) (by decide) (by decide) rfl ?_
  intro T25 h25 b25 X25 K25 G25 U25 E25 D25
  have f26 : Fld Z h25 b25 "com/example/ratable/ratable/core/Posted$Sums" "keys" "[Ljava/lang/Object;" .null := D25 (Or.inl (ow hw 92 rfl)) (ty := (.array (.object "java/lang/Object"))) (by decide)
  have f27 : Fld Z h25 b25 "com/example/ratable/ratable/core/Posted$Sums" "units" "[J" .null := D25 (Or.inl (ow hw 95 rfl)) (ty := (.array .long)) (by decide)
  have f28 : Fld Z h25 b25 "com/example/ratable/ratable/core/Posted$Sums" "opened" "[Ljava/time/LocalDate;" .null := D25 (Or.inl (ow hw 99 rfl)) (ty := (.array (.object "java/time/LocalDate"))) (by decide)
  refine og_dup X25 21 d14_20 rfl rfl ?_
  refine og_iconst X25 22 (1 : Int32) d14_21 rfl rfl ?_
  refine own_spec X25 25 (a := b25) (argsL := [(.int 1)]) (rest := [(.ref b25), (.ref a)]) d14_22 rfl (rs_1 l Z n0 h25 [] a0 hw hWd X25.old b25 E25 f26 f27 f28 (own_svb X25 (om 0 rfl))) (ow hw 85 rfl) (ow hw 86 rfl) (ow hw 84 rfl) (ow hw 87 rfl) (by decide) (lenOf pd__28I_29V rfl) rfl rfl rfl (W := 2) rfl (by decide) (by decide) (by decide) (by decide) (allS (om 0 rfl) all0) rfl ?_
  intro T29 h29 v29 X29 K29 hQ29
  obtain rfl := hQ29
  show OGo _ _ _ _ T29 (mkF m 25 #[.val (.ref a), .val (.ref u)] [(.ref b25), (.ref a)])
  have f30 := f21.keep K25 nin0
  have f31 := f30.keep K29 (ninS (Nat.ne_of_lt (Nat.lt_of_lt_of_le (Nat.lt_of_lt_of_le q0.lt (Nat.le_trans (Nat.le_trans K3.1 K7.1) K20.1)) G25)) nin0)
  have f32 := f11.keep K20
  have f33 := f32.keep K25
  have f34 := f33.keep K29
  have f35 := F20.keep K25 nin0
  have f36 := f35.keep K29 (ninS (Nat.ne_of_lt (Nat.lt_of_lt_of_le (Nat.lt_of_lt_of_le q0.lt (Nat.le_trans (Nat.le_trans K3.1 K7.1) K20.1)) G25)) nin0)
  have f37 := f22.keep K25 nin0
  have f38 := f37.keep K29 (ninS (Nat.ne_of_lt (Nat.lt_of_lt_of_le (Nat.lt_of_lt_of_le q0.lt (Nat.le_trans (Nat.le_trans K3.1 K7.1) K20.1)) G25)) nin0)
  have f39 := f23.keep K25 nin0
  have f40 := f39.keep K29 (ninS (Nat.ne_of_lt (Nat.lt_of_lt_of_le (Nat.lt_of_lt_of_le q0.lt (Nat.le_trans (Nat.le_trans K3.1 K7.1) K20.1)) G25)) nin0)
  have f41 := f24.keep K25 nin0
  have f42 := f41.keep K29 (ninS (Nat.ne_of_lt (Nat.lt_of_lt_of_le (Nat.lt_of_lt_of_le q0.lt (Nat.le_trans (Nat.le_trans K3.1 K7.1) K20.1)) G25)) nin0)
  refine own_put X29 28 d14_25 (host := "") (Or.inl (ow hw 102 rfl)) Via.refl f31 f34 (Or.inr ⟨(ow hw 103 rfl), rfl, hnm⟩) (ow hw 76 rfl) (ty := (.object "com/example/ratable/ratable/core/Posted$Sums")) (by decide) rfl rfl (om 2 rfl) rfl ?_
  intro T43 h43 X43 W43 K43 F43
  have f44 := Fld.other W43 f36 (Or.inr (slot_ne (Or.inr (ow hw 101 rfl)) (Or.inr (ow hw 103 rfl)) (by decide) (t := (.object "com/example/ratable/ratable/core/Posted$Sums")) (t' := (.object "com/example/ratable/ratable/core/Posted$Sums")) (by decide) (by decide)))
  have f45 := Fld.other W43 f38 (Or.inr (slot_ne (Or.inr (ow hw 105 rfl)) (Or.inr (ow hw 103 rfl)) (by decide) (t := (.object "java/lang/String")) (t' := (.object "com/example/ratable/ratable/core/Posted$Sums")) (by decide) (by decide)))
  have f46 := Fld.other W43 f40 (Or.inr (slot_ne (Or.inr (ow hw 108 rfl)) (Or.inr (ow hw 103 rfl)) (by decide) (t := .int) (t' := (.object "com/example/ratable/ratable/core/Posted$Sums")) (by decide) (by decide)))
  have f47 := Fld.other W43 f42 (Or.inr (slot_ne (Or.inl (ow hw 121 rfl)) (Or.inr (ow hw 103 rfl)) (by decide) (t := (.object "com/example/ratable/ratable/core/Posted")) (t' := (.object "com/example/ratable/ratable/core/Posted$Sums")) (by decide) (by decide)))
  refine og_aloadN X43 29 d14_28 rfl rfl rfl ?_
  refine og_aloadN X43 30 d14_29 rfl rfl rfl ?_
  have f48 := f34.keep K43
  refine own_put X43 33 d14_30 (host := "") (Or.inl (ow hw 104 rfl)) Via.refl f45 f48 (Or.inr ⟨(ow hw 105 rfl), rfl, hnm⟩) (ow hw 76 rfl) (ty := (.object "java/lang/String")) (by decide) rfl rfl (om 2 rfl) rfl ?_
  intro T49 h49 X49 W49 K49 F49
  have f50 := Fld.other W49 f44 (Or.inr (slot_ne (Or.inr (ow hw 101 rfl)) (Or.inr (ow hw 105 rfl)) (by decide) (t := (.object "com/example/ratable/ratable/core/Posted$Sums")) (t' := (.object "java/lang/String")) (by decide) (by decide)))
  have f51 := Fld.other W49 F43 (Or.inr (slot_ne (Or.inr (ow hw 103 rfl)) (Or.inr (ow hw 105 rfl)) (by decide) (t := (.object "com/example/ratable/ratable/core/Posted$Sums")) (t' := (.object "java/lang/String")) (by decide) (by decide)))
  have f52 := Fld.other W49 f46 (Or.inr (slot_ne (Or.inr (ow hw 108 rfl)) (Or.inr (ow hw 105 rfl)) (by decide) (t := .int) (t' := (.object "java/lang/String")) (by decide) (by decide)))
  have f53 := Fld.other W49 f47 (Or.inr (slot_ne (Or.inl (ow hw 121 rfl)) (Or.inr (ow hw 105 rfl)) (by decide) (t := (.object "com/example/ratable/ratable/core/Posted")) (t' := (.object "java/lang/String")) (by decide) (by decide)))
  refine og_aloadN X49 34 d14_33 rfl rfl rfl ?_
  refine og_aloadN X49 35 d14_34 rfl rfl rfl ?_
  refine og_nonnullY X49 42 d14_35 (by decide) (by decide) ?_
  refine og_aloadN X49 43 d14_42 rfl rfl rfl ?_
  have f54 := q6.keep K3
  have f55 := f54.keep K7
  have f56 := f55.keep K20
  have f57 := f56.keep K25
  have f58 := f57.keep K29
  have f59 := f58.keep K43
  have f60 := f59.keep K49
  have f61 := q7.keep K3 nin0
  have f62 := f61.keep K7 (ninS (Nat.ne_of_lt (Nat.lt_of_lt_of_le q6.lt G3)) nin0)
  have f64 := f48.keep K49
  have f63 := f62.keep K20 (ninS (ne_exa f60 f64 (by decide)) nin0)
  have f65 := f63.keep K25 nin0
  have f66 := f65.keep K29 (ninS (Nat.ne_of_lt (Nat.lt_of_lt_of_le (Nat.lt_of_lt_of_le q6.lt (Nat.le_trans (Nat.le_trans K3.1 K7.1) K20.1)) G25)) nin0)
  have f67 := f66.keep K43 (ninS (ne_exa f60 f64 (by decide)) nin0)
  have f68 := f67.keep K49 (ninS (ne_exa f60 f64 (by decide)) nin0)
  have f69 := q8.keep K3 nin0
  have f70 := f69.keep K7 (ninS (Nat.ne_of_lt (Nat.lt_of_lt_of_le q6.lt G3)) nin0)
  have f71 := f70.keep K20 (ninS (ne_exa f60 f64 (by decide)) nin0)
  have f72 := f71.keep K25 nin0
  have f73 := f72.keep K29 (ninS (Nat.ne_of_lt (Nat.lt_of_lt_of_le (Nat.lt_of_lt_of_le q6.lt (Nat.le_trans (Nat.le_trans K3.1 K7.1) K20.1)) G25)) nin0)
  have f74 := f73.keep K43 (ninS (ne_exa f60 f64 (by decide)) nin0)
  have f75 := f74.keep K49 (ninS (ne_exa f60 f64 (by decide)) nin0)
  have f76 := q9.keep K3 nin0
  have f77 := f76.keep K7 (ninS (Nat.ne_of_lt (Nat.lt_of_lt_of_le q6.lt G3)) nin0)
  have f78 := f77.keep K20 (ninS (ne_exa f60 f64 (by decide)) nin0)
  have f79 := f78.keep K25 nin0
  have f80 := f79.keep K29 (ninS (Nat.ne_of_lt (Nat.lt_of_lt_of_le (Nat.lt_of_lt_of_le q6.lt (Nat.le_trans (Nat.le_trans K3.1 K7.1) K20.1)) G25)) nin0)
  have f81 := f80.keep K43 (ninS (ne_exa f60 f64 (by decide)) nin0)
  have f82 := f81.keep K49 (ninS (ne_exa f60 f64 (by decide)) nin0)
  have f83 := q10.keep K3 nin0
  have f84 := f83.keep K7 (ninS (Nat.ne_of_lt (Nat.lt_of_lt_of_le q6.lt G3)) nin0)
  have f85 := f84.keep K20 (ninS (ne_exa f60 f64 (by decide)) nin0)
  have f86 := f85.keep K25 nin0
  have f87 := f86.keep K29 (ninS (Nat.ne_of_lt (Nat.lt_of_lt_of_le (Nat.lt_of_lt_of_le q6.lt (Nat.le_trans (Nat.le_trans K3.1 K7.1) K20.1)) G25)) nin0)
  have f88 := f87.keep K43 (ninS (ne_exa f60 f64 (by decide)) nin0)
  have f89 := f88.keep K49 (ninS (ne_exa f60 f64 (by decide)) nin0)
  have f90 := q11.keep K3
  have f91 := f90.keep K7
  have f92 := f91.keep K20
  have f93 := f92.keep K25
  have f94 := f93.keep K29
  have f95 := f94.keep K43
  have f96 := f95.keep K49
  have f97 := q12.keep K3 nin0
  have f98 := f97.keep K7 (ninS (Nat.ne_of_lt (Nat.lt_of_lt_of_le q11.lt G3)) nin0)
  have f99 := f98.keep K20 (ninS (ne_exa f96 f64 (by decide)) nin0)
  have f100 := f99.keep K25 nin0
  have f101 := f100.keep K29 (ninS (Nat.ne_of_lt (Nat.lt_of_lt_of_le (Nat.lt_of_lt_of_le q11.lt (Nat.le_trans (Nat.le_trans K3.1 K7.1) K20.1)) G25)) nin0)
  have f102 := f101.keep K43 (ninS (ne_exa f96 f64 (by decide)) nin0)
  have f103 := f102.keep K49 (ninS (ne_exa f96 f64 (by decide)) nin0)
  refine own_stat X49 46 (argsL := [(.ref u)]) (rest := [(.ref a)]) d14_43 (rh_pa l Z n0 h49 [] a0 hw hWd X49.old u t kt cs f60 f68 f75 f82 f89 f96 f103 q13 ) (ow hw 106 rfl) (ow hw 57 rfl) (ow hw 36 rfl) (ow hw 58 rfl) (by decide) (lenOf pd__28Ljava_2flang_2fString_3b_29I rfl) rfl rfl rfl (W := 1) rfl (by decide) (by decide) (by decide) (by decide) all0 rfl ?_
  intro T104 h104 v104 X104 K104 hQ104
  obtain rfl := hQ104
  show OGo _ _ _ _ T104 (mkF m 46 #[.val (.ref a), .val (.ref u)] [(.int (own_hh cs)), (.ref a)])
  have f105 := f52.keep K104 nin0
  have f106 := f64.keep K104
  have f107 := f50.keep K104 nin0
  have f108 := f51.keep K104 nin0
  have f109 := F49.keep K104 nin0
  have f110 := f53.keep K104 nin0
  refine own_put X104 49 d14_46 (host := "") (Or.inl (ow hw 107 rfl)) Via.refl f105 f106 (Or.inr ⟨(ow hw 108 rfl), rfl, hnm⟩) (ow hw 76 rfl) (ty := .int) (by decide) rfl rfl (om 2 rfl) rfl ?_
  intro T111 h111 X111 W111 K111 F111
  have f112 := Fld.other W111 f107 (Or.inr (slot_ne (Or.inr (ow hw 101 rfl)) (Or.inr (ow hw 108 rfl)) (by decide) (t := (.object "com/example/ratable/ratable/core/Posted$Sums")) (t' := .int) (by decide) (by decide)))
  have f113 := Fld.other W111 f108 (Or.inr (slot_ne (Or.inr (ow hw 103 rfl)) (Or.inr (ow hw 108 rfl)) (by decide) (t := (.object "com/example/ratable/ratable/core/Posted$Sums")) (t' := .int) (by decide) (by decide)))
  have f114 := Fld.other W111 f109 (Or.inr (slot_ne (Or.inr (ow hw 105 rfl)) (Or.inr (ow hw 108 rfl)) (by decide) (t := (.object "java/lang/String")) (t' := .int) (by decide) (by decide)))
  have f115 := Fld.other W111 f110 (Or.inr (slot_ne (Or.inl (ow hw 121 rfl)) (Or.inr (ow hw 108 rfl)) (by decide) (t := (.object "com/example/ratable/ratable/core/Posted")) (t' := .int) (by decide) (by decide)))
  refine own_retV X111 d14_49 hret (by decide) (by decide) ?_
  exact ⟨rfl, f114, F111, f115⟩
theorem rm7 (a0 : Array Value) (hw : OHw a0 Z) (hWd : OWorld Z a0) (O0 : Old Z n0 h0) (a : Addr) (q0 : Exa Z h0 a "com/example/ratable/ratable/core/PostedById") (q1 : Fld Z h0 a "com/example/ratable/ratable/core/PostedById" "buckets" "[Lcom/example/ratable/ratable/core/Posted;" .null) (q2 : Fld Z h0 a "com/example/ratable/ratable/core/PostedById" "inOrder" "[Lcom/example/ratable/ratable/core/Posted;" .null) (q3 : Fld Z h0 a "com/example/ratable/ratable/core/PostedById" "size" "I" (.int 0)) (g0 : n0 ≤ a ∧ a < h0.size) :
    OMet l Z own_EL n0 yN18 (Jvm.Cond.code yN18 prog_64_method_1_code 1 none :: wc) ({ frames := 1, cells := 2, slots := 32, locals := 12 } : Room) #[(.ref a)] h0 [a] (fun vq hq => ∃ (bk : Addr) (kb : ClassId) (io : Addr) (ki : ClassId), vq = none ∧ h0.size ≤ bk ∧ h0.size ≤ io ∧ Fld Z hq a "com/example/ratable/ratable/core/PostedById" "buckets" "[Lcom/example/ratable/ratable/core/Posted;" (.ref bk) ∧ Fld Z hq a "com/example/ratable/ratable/core/PostedById" "inOrder" "[Lcom/example/ratable/ratable/core/Posted;" (.ref io) ∧ Fld Z hq a "com/example/ratable/ratable/core/PostedById" "size" "I" (.int 0) ∧ Arv Z hq bk kb (.object "com/example/ratable/ratable/core/Posted") (16 : Int32) own_V0 .null ∧ Ovr Z kb "com/example/ratable/ratable/core/Posted" ∧ Arv Z hq io ki (.object "com/example/ratable/ratable/core/Posted") (16 : Int32) [.null, .null, .null, .null, .null, .null, .null, .null, .null, .null, .null, .null, .null, .null, .null, .null] .null ∧ Ovr Z ki "com/example/ratable/ratable/core/Posted" ∧ bk ≠ io) := by
  refine own_enter #[.val (.ref a)] pn_com_example_ratable_ratable_core_PostedById__init____V (ef_rm7 a) hWd.1 O0 (allS g0 all0) ?_
  intro p e s m below meth c T0 X0 hnm hret
  refine og_aloadN X0 1 d7_0 rfl rfl rfl ?_
  refine own_obj0 X0 4 (a := a) d7_1 (ow hw 40 rfl) (ow hw 24 rfl) (ow hw 25 rfl) rfl (W := 0) rfl (by decide) (by decide) rfl ?_
  intro T1 X2
  refine og_aloadN X2 5 d7_4 rfl rfl rfl ?_
  refine og_bipush X2 7 (16 : Int32) d7_5 rfl rfl ?_
  refine own_anew X2 10 d7_7 (ow hw 41 rfl) (ow hw 31 rfl) (by decide) (cap := 16) (by decide) (by decide) (by decide) (by decide) rfl ?_
  intro T3 h3 b3 kb3 X3 K3 G3 U3 A3 O3
  have f4 : Arv Z h3 b3 kb3 (.object "com/example/ratable/ratable/core/Posted") (16 : Int32) [.null, .null, .null, .null, .null, .null, .null, .null, .null, .null, .null, .null, .null, .null, .null, .null] .null := A3
  have f5 := q1.keep K3 nin0
  have f6 := q0.keep K3
  have f7 := q2.keep K3 nin0
  have f8 := q3.keep K3 nin0
  refine own_put X3 13 d7_10 (host := "") (Or.inl (ow hw 42 rfl)) Via.refl f5 f6 (Or.inl (ow hw 43 rfl)) (ow hw 35 rfl) (ty := (.array (.object "com/example/ratable/ratable/core/Posted"))) (by decide) rfl rfl (om 1 rfl) rfl ?_
  intro T9 h9 X9 W9 K9 F9
  have f10 := Fld.other W9 f7 (Or.inr (slot_ne (Or.inl (ow hw 45 rfl)) (Or.inl (ow hw 43 rfl)) (by decide) (t := (.array (.object "com/example/ratable/ratable/core/Posted"))) (t' := (.array (.object "com/example/ratable/ratable/core/Posted"))) (by decide) (by decide)))
  have f11 := Fld.other W9 f8 (Or.inr (slot_ne (Or.inl (ow hw 114 rfl)) (Or.inl (ow hw 43 rfl)) (by decide) (t := .int) (t' := (.array (.object "com/example/ratable/ratable/core/Posted"))) (by decide) (by decide)))
  refine og_aloadN X9 14 d7_13 rfl rfl rfl ?_
  refine og_bipush X9 16 (16 : Int32) d7_14 rfl rfl ?_
  refine own_anew X9 19 d7_16 (ow hw 41 rfl) (ow hw 31 rfl) (by decide) (cap := 16) (by decide) (by decide) (by decide) (by decide) rfl ?_
  intro T12 h12 b12 kb12 X12 K12 G12 U12 A12 O12
  have f13 : Arv Z h12 b12 kb12 (.object "com/example/ratable/ratable/core/Posted") (16 : Int32) [.null, .null, .null, .null, .null, .null, .null, .null, .null, .null, .null, .null, .null, .null, .null, .null] .null := A12
  have f14 := f10.keep K12 nin0
  have f15 := f6.keep K9
  have f16 := f15.keep K12
  have f17 := F9.keep K12 nin0
  have f18 := f11.keep K12 nin0
  refine own_put X12 22 d7_19 (host := "") (Or.inl (ow hw 44 rfl)) Via.refl f14 f16 (Or.inl (ow hw 45 rfl)) (ow hw 35 rfl) (ty := (.array (.object "com/example/ratable/ratable/core/Posted"))) (by decide) rfl rfl (om 2 rfl) rfl ?_
  intro T19 h19 X19 W19 K19 F19
  have f20 := Fld.other W19 f17 (Or.inr (slot_ne (Or.inl (ow hw 43 rfl)) (Or.inl (ow hw 45 rfl)) (by decide) (t := (.array (.object "com/example/ratable/ratable/core/Posted"))) (t' := (.array (.object "com/example/ratable/ratable/core/Posted"))) (by decide) (by decide)))
  have f21 := Fld.other W19 f18 (Or.inr (slot_ne (Or.inl (ow hw 114 rfl)) (Or.inl (ow hw 45 rfl)) (by decide) (t := .int) (t' := (.array (.object "com/example/ratable/ratable/core/Posted"))) (by decide) (by decide)))
  have f22 := f4.keep K9 (ninS (Nat.ne_of_gt (Nat.lt_of_lt_of_le q0.lt G3)) nin0)
  have f23 := f22.keep K12 nin0
  have f24 := f23.keep K19 (ninS (Nat.ne_of_gt (Nat.lt_of_lt_of_le q0.lt G3)) nin0)
  have f25 := f13.keep K19 (ninS (Nat.ne_of_gt (Nat.lt_of_lt_of_le (Nat.lt_of_lt_of_le q0.lt (Nat.le_trans K3.1 K9.1)) G12)) nin0)
  refine own_retV X19 d7_22 hret (by decide) (by decide) ?_
  exact ⟨_, _, _, _, rfl, G3, (Nat.le_trans (Nat.le_trans K3.1 K9.1) G12), f20, F19, f21, f24, O3, f25, O12, (Nat.ne_of_lt (Nat.lt_of_lt_of_le (Nat.lt_of_lt_of_le U3 K9.1) G12))⟩
theorem rm17 (a0 : Array Value) (hw : OHw a0 Z) (hWd : OWorld Z a0) (O0 : Old Z n0 h0) (q : Addr) (bk : Addr) (u : Addr) (kb : ClassId) (vs : List Value) (cs : List Int32) (q0 : Exa Z h0 q "com/example/ratable/ratable/core/Posted") (q1 : Fld Z h0 q "com/example/ratable/ratable/core/Posted" "id" "Ljava/lang/String;" (.ref u)) (q2 : Fld Z h0 q "com/example/ratable/ratable/core/Posted" "hash" "I" (.int (own_hh cs))) (q3 : Fld Z h0 q "com/example/ratable/ratable/core/Posted" "chained" "Lcom/example/ratable/ratable/core/Posted;" .null) (q4 : Arv Z h0 bk kb (.object "com/example/ratable/ratable/core/Posted") (16 : Int32) vs .null) (q5 : Ovr Z kb "com/example/ratable/ratable/core/Posted") (q6 : own_okv vs) (g0 : n0 ≤ q ∧ q < h0.size) (g1 : n0 ≤ bk ∧ bk < h0.size) :
    OMet l Z own_EL n0 yN19 (Jvm.Cond.code yN19 prog_64_method_10_code 3 none :: wc) ({ frames := 0, cells := 0, slots := 0, locals := 0 } : Room) #[(.ref q), (.ref bk)] h0 [q, bk] (fun vq hq => vq = none ∧ Fld Z hq q "com/example/ratable/ratable/core/Posted" "id" "Ljava/lang/String;" (.ref u) ∧ Fld Z hq q "com/example/ratable/ratable/core/Posted" "hash" "I" (.int (own_hh cs)) ∧ Fld Z hq q "com/example/ratable/ratable/core/Posted" "chained" "Lcom/example/ratable/ratable/core/Posted;" (own_at vs cs) ∧ Arv Z hq bk kb (.object "com/example/ratable/ratable/core/Posted") (16 : Int32) (own_bset vs cs q) .null) := by
  refine own_enter #[.val (.ref q), .val (.ref bk), .unset] pn_com_example_ratable_ratable_core_PostedById_chain__Lcom_example_ratable_ratable_core_Posted__Lcom_example_ratable_ratable_core_Posted__V (ef_rm17 q bk u kb vs cs) hWd.1 O0 (allS g0 (allS g1 all0)) ?_
  intro p e s m below meth c T0 X0 hnm hret
  refine og_aloadN X0 1 d17_0 rfl rfl rfl ?_
  refine own_get X0 4 d17_1 (host := "") (Or.inl (ow hw 119 rfl)) Via.refl q2 rfl ?_
  intro T1 X2
  refine og_aloadN X2 5 d17_4 rfl rfl rfl ?_
  refine own_len X2 6 d17_5 q4 rfl ?_
  refine og_iconst X2 7 (1 : Int32) d17_6 rfl rfl ?_
  refine og_isub X2 8 d17_7 rfl ?_
  show OGo _ _ _ _ T1 (mkF m 8 #[.val (.ref q), .val (.ref bk), .unset] [(.int 15), (.int (own_hh cs))])
  refine og_iand X2 9 d17_8 rfl ?_
  refine og_istoreN X2 10 #[.val (.ref q), .val (.ref bk), .val (.int ((own_hh cs) &&& (15 : Int32)))] d17_9 rfl rfl ?_
  refine og_aloadN X2 11 d17_10 rfl rfl rfl ?_
  refine og_aloadN X2 12 d17_11 rfl rfl rfl ?_
  refine og_iloadN X2 13 d17_12 rfl rfl ?_
  refine own_ldR X2 14 d17_13 q4 rfl (v := own_at vs cs) (own_jx0 cs) (own_jx1 cs) rfl rfl ?_
  refine own_put X2 17 d17_14 (host := "") (Or.inl (ow hw 120 rfl)) Via.refl q3 q0 (Or.inl (ow hw 121 rfl)) (ow hw 76 rfl) (ty := (.object "com/example/ratable/ratable/core/Posted")) (by decide) (own_narR rfl (q6.2 cs)) (own_fitR rfl (q6.2 cs)) (om 0 rfl) rfl ?_
  intro T3 h3 X3 W3 K3 F3
  have f4 := Fld.other W3 q1 (Or.inr (slot_ne (Or.inr (ow hw 105 rfl)) (Or.inl (ow hw 121 rfl)) (by decide) (t := (.object "java/lang/String")) (t' := (.object "com/example/ratable/ratable/core/Posted")) (by decide) (by decide)))
  have f5 := Fld.other W3 q2 (Or.inr (slot_ne (Or.inr (ow hw 108 rfl)) (Or.inl (ow hw 121 rfl)) (by decide) (t := .int) (t' := (.object "com/example/ratable/ratable/core/Posted")) (by decide) (by decide)))
  refine og_aloadN X3 18 d17_17 rfl rfl rfl ?_
  refine og_iloadN X3 19 d17_18 rfl rfl ?_
  refine og_aloadN X3 20 d17_19 rfl rfl rfl ?_
  have f6 := q4.keep K3 (ninS (Ne.symm (own_neA q0 (ow hw 76 rfl) q4)) nin0)
  have f7 := q0.keep K3
  refine own_stR X3 21 d17_20 f6 rfl rfl (own_sto f6 q5 (Ins.self f7)) (own_jx0 cs) (own_jx1 cs) (i := own_ji cs) rfl (own_jil q6) (om 1 rfl) rfl ?_
  intro T8 h8 X8 W8 K8 A8
  have f9 : Arv Z h8 bk kb (.object "com/example/ratable/ratable/core/Posted") (16 : Int32) (own_bset vs cs q) .null := A8
  have f10 := f4.keep K8 (ninS (own_neA (f7.keep K8) (ow hw 76 rfl) f9) nin0)
  have f11 := f5.keep K8 (ninS (own_neA (f7.keep K8) (ow hw 76 rfl) f9) nin0)
  have f12 := F3.keep K8 (ninS (own_neA (f7.keep K8) (ow hw 76 rfl) f9) nin0)
  refine own_retV X8 d17_21 hret (by decide) (by decide) ?_
  exact ⟨rfl, f10, f11, f12, f9⟩
theorem rp_put0 (a0 : Array Value) (hw : OHw a0 Z) (hWd : OWorld Z a0) (O0 : Old Z n0 h0) (a : Addr) (q : Addr) (bk : Addr) (io : Addr) (u : Addr) (kb : ClassId) (ki : ClassId) (vs : List Value) (cs : List Int32) (q0 : Exa Z h0 a "com/example/ratable/ratable/core/PostedById") (q1 : Fld Z h0 a "com/example/ratable/ratable/core/PostedById" "buckets" "[Lcom/example/ratable/ratable/core/Posted;" (.ref bk)) (q2 : Fld Z h0 a "com/example/ratable/ratable/core/PostedById" "inOrder" "[Lcom/example/ratable/ratable/core/Posted;" (.ref io)) (q3 : Fld Z h0 a "com/example/ratable/ratable/core/PostedById" "size" "I" (.int 0)) (q4 : Arv Z h0 bk kb (.object "com/example/ratable/ratable/core/Posted") (16 : Int32) vs .null) (q5 : Arv Z h0 io ki (.object "com/example/ratable/ratable/core/Posted") (16 : Int32) [.null, .null, .null, .null, .null, .null, .null, .null, .null, .null, .null, .null, .null, .null, .null, .null] .null) (q6 : Ovr Z kb "com/example/ratable/ratable/core/Posted") (q7 : Ovr Z ki "com/example/ratable/ratable/core/Posted") (q8 : bk ≠ io) (q9 : Exa Z h0 q "com/example/ratable/ratable/core/Posted") (q10 : Fld Z h0 q "com/example/ratable/ratable/core/Posted" "id" "Ljava/lang/String;" (.ref u)) (q11 : Fld Z h0 q "com/example/ratable/ratable/core/Posted" "hash" "I" (.int (own_hh cs))) (q12 : Fld Z h0 q "com/example/ratable/ratable/core/Posted" "chained" "Lcom/example/ratable/ratable/core/Posted;" .null) (q13 : own_okv vs) (g0 : n0 ≤ a ∧ a < h0.size) (g1 : n0 ≤ io ∧ io < h0.size) (g2 : n0 ≤ q ∧ q < h0.size) (g3 : n0 ≤ bk ∧ bk < h0.size) :
    OMet l Z own_EL n0 yN20 (Jvm.Cond.code yN20 prog_64_method_8_code 2 none :: wc) ({ frames := 1, cells := 0, slots := 0, locals := 14 } : Room) #[(.ref a), (.ref q)] h0 [a, io, q, bk] (fun vq hq => vq = none ∧ Fld Z hq a "com/example/ratable/ratable/core/PostedById" "buckets" "[Lcom/example/ratable/ratable/core/Posted;" (.ref bk) ∧ Fld Z hq a "com/example/ratable/ratable/core/PostedById" "inOrder" "[Lcom/example/ratable/ratable/core/Posted;" (.ref io) ∧ Fld Z hq a "com/example/ratable/ratable/core/PostedById" "size" "I" (.int 1) ∧ Arv Z hq bk kb (.object "com/example/ratable/ratable/core/Posted") (16 : Int32) (own_bset vs cs q) .null ∧ Arv Z hq io ki (.object "com/example/ratable/ratable/core/Posted") (16 : Int32) [(.ref q), .null, .null, .null, .null, .null, .null, .null, .null, .null, .null, .null, .null, .null, .null, .null] .null ∧ Fld Z hq q "com/example/ratable/ratable/core/Posted" "id" "Ljava/lang/String;" (.ref u) ∧ Fld Z hq q "com/example/ratable/ratable/core/Posted" "hash" "I" (.int (own_hh cs)) ∧ Fld Z hq q "com/example/ratable/ratable/core/Posted" "chained" "Lcom/example/ratable/ratable/core/Posted;" (own_at vs cs)) := by
  refine own_enter #[.val (.ref a), .val (.ref q)] pn_com_example_ratable_ratable_core_PostedById_put__Lcom_example_ratable_ratable_core_Posted__V (ef_rp_put0 a q bk io u kb ki vs cs) hWd.1 O0 (allS g0 (allS g1 (allS g2 (allS g3 all0)))) ?_
  intro p e s m below meth c T0 X0 hnm hret
  refine og_aloadN X0 1 d16_0 rfl rfl rfl ?_
  refine own_get X0 4 d16_1 (host := "") (Or.inl (ow hw 113 rfl)) Via.refl q3 rfl ?_
  intro T1 X2
  refine og_aloadN X2 5 d16_4 rfl rfl rfl ?_
  refine own_get X2 8 d16_5 (host := "") (Or.inl (ow hw 44 rfl)) Via.refl q2 rfl ?_
  intro T3 X4
  refine own_len X4 9 d16_8 q5 rfl ?_
  refine og_icmpY X4 32 d16_9 (XT.ii_ne_t (by decide)) (by decide) (by decide) ?_
  refine og_aloadN X4 33 d16_32 rfl rfl rfl ?_
  refine own_get X4 36 d16_33 (host := "") (Or.inl (ow hw 44 rfl)) Via.refl q2 rfl ?_
  intro T5 X6
  refine og_aloadN X6 37 d16_36 rfl rfl rfl ?_
  refine og_dup X6 38 d16_37 rfl rfl ?_
  refine own_get X6 41 d16_38 (host := "") (Or.inl (ow hw 113 rfl)) Via.refl q3 rfl ?_
  intro T7 X8
  refine og_dupX1 X8 42 d16_41 rfl rfl rfl ?_
  refine og_iconst X8 43 (1 : Int32) d16_42 rfl rfl ?_
  refine og_iadd X8 44 d16_43 rfl ?_
  show OGo _ _ _ _ T7 (mkF m 44 #[.val (.ref a), .val (.ref q)] [(.int 1), (.ref a), (.int 0), (.ref io)])
  refine own_put X8 47 d16_44 (host := "") (Or.inl (ow hw 113 rfl)) Via.refl q3 q0 (Or.inl (ow hw 114 rfl)) (ow hw 35 rfl) (ty := .int) (by decide) rfl rfl (om 0 rfl) rfl ?_
  intro T9 h9 X9 W9 K9 F9
  have f10 := Fld.other W9 q1 (Or.inr (slot_ne (Or.inl (ow hw 43 rfl)) (Or.inl (ow hw 114 rfl)) (by decide) (t := (.array (.object "com/example/ratable/ratable/core/Posted"))) (t' := .int) (by decide) (by decide)))
  have f11 := Fld.other W9 q2 (Or.inr (slot_ne (Or.inl (ow hw 45 rfl)) (Or.inl (ow hw 114 rfl)) (by decide) (t := (.array (.object "com/example/ratable/ratable/core/Posted"))) (t' := .int) (by decide) (by decide)))
  refine og_aloadN X9 48 d16_47 rfl rfl rfl ?_
  have f12 := q5.keep K9 (ninS (Ne.symm (own_neA q0 (ow hw 35 rfl) q5)) nin0)
  have f14 := q9.keep K9
  refine own_stR X9 49 d16_48 f12 rfl rfl (own_sto f12 q7 (Ins.self f14)) (by decide) (by decide) (i := 0) (by decide) (Nat.le_of_ble_eq_true rfl) (om 1 rfl) rfl ?_
  intro T13 h13 X13 W13 K13 A13
  have f15 : Arv Z h13 io ki (.object "com/example/ratable/ratable/core/Posted") (16 : Int32) [(.ref q), .null, .null, .null, .null, .null, .null, .null, .null, .null, .null, .null, .null, .null, .null, .null] .null := A13
  refine og_aloadN X13 50 d16_49 rfl rfl rfl ?_
  have f16 := F9.keep K13 (ninS (own_neA ((q0.keep K9).keep K13) (ow hw 35 rfl) f15) nin0)
  refine own_get X13 53 d16_50 (host := "") (Or.inl (ow hw 113 rfl)) Via.refl f16 rfl ?_
  intro T17 X18
  refine og_aloadN X18 54 d16_53 rfl rfl rfl ?_
  have f19 := f10.keep K13 (ninS (own_neA ((q0.keep K9).keep K13) (ow hw 35 rfl) f15) nin0)
  refine own_get X18 57 d16_54 (host := "") (Or.inl (ow hw 42 rfl)) Via.refl f19 rfl ?_
  intro T20 X21
  have f22 := q4.keep K9 (ninS (Ne.symm (own_neA q0 (ow hw 35 rfl) q4)) nin0)
  have f23 := f22.keep K13 (ninS q8 nin0)
  refine own_len X21 58 d16_57 f23 rfl ?_
  refine og_iconst X21 59 (4 : Int32) d16_58 rfl rfl ?_
  refine og_idiv X21 60 d16_59 (by decide) rfl ?_
  show OGo _ _ _ _ T20 (mkF m 60 #[.val (.ref a), .val (.ref q)] [(.int 4), (.int 1)])
  refine og_iconst X21 61 (3 : Int32) d16_60 rfl rfl ?_
  refine og_imul X21 62 d16_61 rfl ?_
  show OGo _ _ _ _ T20 (mkF m 62 #[.val (.ref a), .val (.ref q)] [(.int 12), (.int 1)])
  refine og_icmpY X21 79 d16_62 (XT.ii_le_t (by decide)) (by decide) (by decide) ?_
  refine og_aloadN X21 80 d16_79 rfl rfl rfl ?_
  refine og_aloadN X21 81 d16_80 rfl rfl rfl ?_
  refine own_get X21 84 d16_81 (host := "") (Or.inl (ow hw 42 rfl)) Via.refl f19 rfl ?_
  intro T24 X25
  have f26 := f14.keep K13
  have f28 := q0.keep K9
  have f29 := f28.keep K13
  have f27 := q10.keep K9 (ninS (ne_exa f26 f29 (by decide)) nin0)
  have f30 := f27.keep K13 (ninS (own_neA f26 (ow hw 76 rfl) f15) nin0)
  have f31 := q11.keep K9 (ninS (ne_exa f26 f29 (by decide)) nin0)
  have f32 := f31.keep K13 (ninS (own_neA f26 (ow hw 76 rfl) f15) nin0)
  have f33 := q12.keep K9 (ninS (ne_exa f26 f29 (by decide)) nin0)
  have f34 := f33.keep K13 (ninS (own_neA f26 (ow hw 76 rfl) f15) nin0)
  refine own_stat X25 87 (argsL := [(.ref q), (.ref bk)]) (rest := []) d16_84 (rm17 l Z n0 h13 [] a0 hw hWd X25.old q bk u kb vs cs f26 f30 f32 f34 f23 q6 q13 (own_svb X25 (om 2 rfl)) (own_svb X25 (om 3 rfl))) (ow hw 116 rfl) (ow hw 117 rfl) (ow hw 36 rfl) (ow hw 118 rfl) (by decide) (lenOf pd__28Lcom_2fexample_2fratable_2fratable_2fcore_2fPosted_3b_5bLcom_2fexample_2fratable_2fratable_2fcore_2fPosted_3b_29V rfl) rfl rfl rfl (W := 0) rfl (by decide) (by decide) (by decide) (by decide) (allS (om 2 rfl) (allS (om 3 rfl) all0)) rfl ?_
  intro T35 h35 v35 X35 K35 hQ35
  obtain ⟨rfl, f36, f37, f38, f39⟩ := hQ35
  show OGo _ _ _ _ T35 (mkF m 87 #[.val (.ref a), .val (.ref q)] [])
  have f41 := f29.keep K35
  have f42 := f26.keep K35
  have f40 := f19.keep K35 (ninS (ne_exa f41 f42 (by decide)) (ninS (own_neA (f29.keep K35) (ow hw 35 rfl) f39) nin0))
  have f43 := f11.keep K13 (ninS (own_neA f29 (ow hw 35 rfl) f15) nin0)
  have f44 := f43.keep K35 (ninS (ne_exa f41 f42 (by decide)) (ninS (own_neA f41 (ow hw 35 rfl) f39) nin0))
  have f45 := f16.keep K35 (ninS (ne_exa f41 f42 (by decide)) (ninS (own_neA f41 (ow hw 35 rfl) f39) nin0))
  have f46 := f15.keep K35 (ninS (Ne.symm (own_neA f26 (ow hw 76 rfl) f15)) (ninS (Ne.symm q8) nin0))
  refine own_retV X35 d16_87 hret (by decide) (by decide) ?_
  exact ⟨rfl, f40, f44, f45, f39, f46, f36, f37, f38⟩
theorem rp_put1 (a0 : Array Value) (hw : OHw a0 Z) (hWd : OWorld Z a0) (O0 : Old Z n0 h0) (a : Addr) (q : Addr) (bk : Addr) (io : Addr) (u : Addr) (kb : ClassId) (ki : ClassId) (vs : List Value) (cs : List Int32) (i0 : Addr) (q0 : Exa Z h0 a "com/example/ratable/ratable/core/PostedById") (q1 : Fld Z h0 a "com/example/ratable/ratable/core/PostedById" "buckets" "[Lcom/example/ratable/ratable/core/Posted;" (.ref bk)) (q2 : Fld Z h0 a "com/example/ratable/ratable/core/PostedById" "inOrder" "[Lcom/example/ratable/ratable/core/Posted;" (.ref io)) (q3 : Fld Z h0 a "com/example/ratable/ratable/core/PostedById" "size" "I" (.int 1)) (q4 : Arv Z h0 bk kb (.object "com/example/ratable/ratable/core/Posted") (16 : Int32) vs .null) (q5 : Arv Z h0 io ki (.object "com/example/ratable/ratable/core/Posted") (16 : Int32) [(.ref i0), .null, .null, .null, .null, .null, .null, .null, .null, .null, .null, .null, .null, .null, .null, .null] .null) (q6 : Ovr Z kb "com/example/ratable/ratable/core/Posted") (q7 : Ovr Z ki "com/example/ratable/ratable/core/Posted") (q8 : bk ≠ io) (q9 : Exa Z h0 q "com/example/ratable/ratable/core/Posted") (q10 : Fld Z h0 q "com/example/ratable/ratable/core/Posted" "id" "Ljava/lang/String;" (.ref u)) (q11 : Fld Z h0 q "com/example/ratable/ratable/core/Posted" "hash" "I" (.int (own_hh cs))) (q12 : Fld Z h0 q "com/example/ratable/ratable/core/Posted" "chained" "Lcom/example/ratable/ratable/core/Posted;" .null) (q13 : own_okv vs) (g0 : n0 ≤ a ∧ a < h0.size) (g1 : n0 ≤ io ∧ io < h0.size) (g2 : n0 ≤ q ∧ q < h0.size) (g3 : n0 ≤ bk ∧ bk < h0.size) :
    OMet l Z own_EL n0 yN20 (Jvm.Cond.code yN20 prog_64_method_8_code 2 none :: wc) ({ frames := 1, cells := 0, slots := 0, locals := 14 } : Room) #[(.ref a), (.ref q)] h0 [a, io, q, bk] (fun vq hq => vq = none ∧ Fld Z hq a "com/example/ratable/ratable/core/PostedById" "buckets" "[Lcom/example/ratable/ratable/core/Posted;" (.ref bk) ∧ Fld Z hq a "com/example/ratable/ratable/core/PostedById" "inOrder" "[Lcom/example/ratable/ratable/core/Posted;" (.ref io) ∧ Fld Z hq a "com/example/ratable/ratable/core/PostedById" "size" "I" (.int 2) ∧ Arv Z hq bk kb (.object "com/example/ratable/ratable/core/Posted") (16 : Int32) (own_bset vs cs q) .null ∧ Arv Z hq io ki (.object "com/example/ratable/ratable/core/Posted") (16 : Int32) [(.ref i0), (.ref q), .null, .null, .null, .null, .null, .null, .null, .null, .null, .null, .null, .null, .null, .null] .null ∧ Fld Z hq q "com/example/ratable/ratable/core/Posted" "id" "Ljava/lang/String;" (.ref u) ∧ Fld Z hq q "com/example/ratable/ratable/core/Posted" "hash" "I" (.int (own_hh cs)) ∧ Fld Z hq q "com/example/ratable/ratable/core/Posted" "chained" "Lcom/example/ratable/ratable/core/Posted;" (own_at vs cs)) := by
  refine own_enter #[.val (.ref a), .val (.ref q)] pn_com_example_ratable_ratable_core_PostedById_put__Lcom_example_ratable_ratable_core_Posted__V (ef_rp_put1 a q bk io u kb ki vs cs i0) hWd.1 O0 (allS g0 (allS g1 (allS g2 (allS g3 all0)))) ?_
  intro p e s m below meth c T0 X0 hnm hret
  refine og_aloadN X0 1 d16_0 rfl rfl rfl ?_
  refine own_get X0 4 d16_1 (host := "") (Or.inl (ow hw 113 rfl)) Via.refl q3 rfl ?_
  intro T1 X2
  refine og_aloadN X2 5 d16_4 rfl rfl rfl ?_
  refine own_get X2 8 d16_5 (host := "") (Or.inl (ow hw 44 rfl)) Via.refl q2 rfl ?_
  intro T3 X4
  refine own_len X4 9 d16_8 q5 rfl ?_
  refine og_icmpY X4 32 d16_9 (XT.ii_ne_t (by decide)) (by decide) (by decide) ?_
  refine og_aloadN X4 33 d16_32 rfl rfl rfl ?_
  refine own_get X4 36 d16_33 (host := "") (Or.inl (ow hw 44 rfl)) Via.refl q2 rfl ?_
  intro T5 X6
  refine og_aloadN X6 37 d16_36 rfl rfl rfl ?_
  refine og_dup X6 38 d16_37 rfl rfl ?_
  refine own_get X6 41 d16_38 (host := "") (Or.inl (ow hw 113 rfl)) Via.refl q3 rfl ?_
  intro T7 X8
  refine og_dupX1 X8 42 d16_41 rfl rfl rfl ?_
  refine og_iconst X8 43 (1 : Int32) d16_42 rfl rfl ?_
  refine og_iadd X8 44 d16_43 rfl ?_
  show OGo _ _ _ _ T7 (mkF m 44 #[.val (.ref a), .val (.ref q)] [(.int 2), (.ref a), (.int 1), (.ref io)])
  refine own_put X8 47 d16_44 (host := "") (Or.inl (ow hw 113 rfl)) Via.refl q3 q0 (Or.inl (ow hw 114 rfl)) (ow hw 35 rfl) (ty := .int) (by decide) rfl rfl (om 0 rfl) rfl ?_
  intro T9 h9 X9 W9 K9 F9
  have f10 := Fld.other W9 q1 (Or.inr (slot_ne (Or.inl (ow hw 43 rfl)) (Or.inl (ow hw 114 rfl)) (by decide) (t := (.array (.object "com/example/ratable/ratable/core/Posted"))) (t' := .int) (by decide) (by decide)))
  have f11 := Fld.other W9 q2 (Or.inr (slot_ne (Or.inl (ow hw 45 rfl)) (Or.inl (ow hw 114 rfl)) (by decide) (t := (.array (.object "com/example/ratable/ratable/core/Posted"))) (t' := .int) (by decide) (by decide)))
  refine og_aloadN X9 48 d16_47 rfl rfl rfl ?_
  have f12 := q5.keep K9 (ninS (Ne.symm (own_neA q0 (ow hw 35 rfl) q5)) nin0)
  have f14 := q9.keep K9
  refine own_stR X9 49 d16_48 f12 rfl rfl (own_sto f12 q7 (Ins.self f14)) (by decide) (by decide) (i := 1) (by decide) (Nat.le_of_ble_eq_true rfl) (om 1 rfl) rfl ?_
  intro T13 h13 X13 W13 K13 A13
  have f15 : Arv Z h13 io ki (.object "com/example/ratable/ratable/core/Posted") (16 : Int32) [(.ref i0), (.ref q), .null, .null, .null, .null, .null, .null, .null, .null, .null, .null, .null, .null, .null, .null] .null := A13
  refine og_aloadN X13 50 d16_49 rfl rfl rfl ?_
  have f16 := F9.keep K13 (ninS (own_neA ((q0.keep K9).keep K13) (ow hw 35 rfl) f15) nin0)
  refine own_get X13 53 d16_50 (host := "") (Or.inl (ow hw 113 rfl)) Via.refl f16 rfl ?_
  intro T17 X18
  refine og_aloadN X18 54 d16_53 rfl rfl rfl ?_
  have f19 := f10.keep K13 (ninS (own_neA ((q0.keep K9).keep K13) (ow hw 35 rfl) f15) nin0)
  refine own_get X18 57 d16_54 (host := "") (Or.inl (ow hw 42 rfl)) Via.refl f19 rfl ?_
  intro T20 X21
  have f22 := q4.keep K9 (ninS (Ne.symm (own_neA q0 (ow hw 35 rfl) q4)) nin0)
  have f23 := f22.keep K13 (ninS q8 nin0)
  refine own_len X21 58 d16_57 f23 rfl ?_
  refine og_iconst X21 59 (4 : Int32) d16_58 rfl rfl ?_
  refine og_idiv X21 60 d16_59 (by decide) rfl ?_
  show OGo _ _ _ _ T20 (mkF m 60 #[.val (.ref a), .val (.ref q)] [(.int 4), (.int 2)])
  refine og_iconst X21 61 (3 : Int32) d16_60 rfl rfl ?_
  refine og_imul X21 62 d16_61 rfl ?_
  show OGo _ _ _ _ T20 (mkF m 62 #[.val (.ref a), .val (.ref q)] [(.int 12), (.int 2)])
  refine og_icmpY X21 79 d16_62 (XT.ii_le_t (by decide)) (by decide) (by decide) ?_
  refine og_aloadN X21 80 d16_79 rfl rfl rfl ?_
  refine og_aloadN X21 81 d16_80 rfl rfl rfl ?_
  refine own_get X21 84 d16_81 (host := "") (Or.inl (ow hw 42 rfl)) Via.refl f19 rfl ?_
  intro T24 X25
  have f26 := f14.keep K13
  have f28 := q0.keep K9
  have f29 := f28.keep K13
  have f27 := q10.keep K9 (ninS (ne_exa f26 f29 (by decide)) nin0)
  have f30 := f27.keep K13 (ninS (own_neA f26 (ow hw 76 rfl) f15) nin0)
  have f31 := q11.keep K9 (ninS (ne_exa f26 f29 (by decide)) nin0)
  have f32 := f31.keep K13 (ninS (own_neA f26 (ow hw 76 rfl) f15) nin0)
  have f33 := q12.keep K9 (ninS (ne_exa f26 f29 (by decide)) nin0)
  have f34 := f33.keep K13 (ninS (own_neA f26 (ow hw 76 rfl) f15) nin0)
  refine own_stat X25 87 (argsL := [(.ref q), (.ref bk)]) (rest := []) d16_84 (rm17 l Z n0 h13 [] a0 hw hWd X25.old q bk u kb vs cs f26 f30 f32 f34 f23 q6 q13 (own_svb X25 (om 2 rfl)) (own_svb X25 (om 3 rfl))) (ow hw 116 rfl) (ow hw 117 rfl) (ow hw 36 rfl) (ow hw 118 rfl) (by decide) (lenOf pd__28Lcom_2fexample_2fratable_2fratable_2fcore_2fPosted_3b_5bLcom_2fexample_2fratable_2fratable_2fcore_2fPosted_3b_29V rfl) rfl rfl rfl (W := 0) rfl (by decide) (by decide) (by decide) (by decide) (allS (om 2 rfl) (allS (om 3 rfl) all0)) rfl ?_
  intro T35 h35 v35 X35 K35 hQ35
  obtain ⟨rfl, f36, f37, f38, f39⟩ := hQ35
  show OGo _ _ _ _ T35 (mkF m 87 #[.val (.ref a), .val (.ref q)] [])
  have f41 := f29.keep K35
  have f42 := f26.keep K35
  have f40 := f19.keep K35 (ninS (ne_exa f41 f42 (by decide)) (ninS (own_neA (f29.keep K35) (ow hw 35 rfl) f39) nin0))
  have f43 := f11.keep K13 (ninS (own_neA f29 (ow hw 35 rfl) f15) nin0)
  have f44 := f43.keep K35 (ninS (ne_exa f41 f42 (by decide)) (ninS (own_neA f41 (ow hw 35 rfl) f39) nin0))
  have f45 := f16.keep K35 (ninS (ne_exa f41 f42 (by decide)) (ninS (own_neA f41 (ow hw 35 rfl) f39) nin0))
  have f46 := f15.keep K35 (ninS (Ne.symm (own_neA f26 (ow hw 76 rfl) f15)) (ninS (Ne.symm q8) nin0))
  refine own_retV X35 d16_87 hret (by decide) (by decide) ?_
  exact ⟨rfl, f40, f44, f45, f39, f46, f36, f37, f38⟩
theorem rp_put2 (a0 : Array Value) (hw : OHw a0 Z) (hWd : OWorld Z a0) (O0 : Old Z n0 h0) (a : Addr) (q : Addr) (bk : Addr) (io : Addr) (u : Addr) (kb : ClassId) (ki : ClassId) (vs : List Value) (cs : List Int32) (i0 : Addr) (i1 : Addr) (q0 : Exa Z h0 a "com/example/ratable/ratable/core/PostedById") (q1 : Fld Z h0 a "com/example/ratable/ratable/core/PostedById" "buckets" "[Lcom/example/ratable/ratable/core/Posted;" (.ref bk)) (q2 : Fld Z h0 a "com/example/ratable/ratable/core/PostedById" "inOrder" "[Lcom/example/ratable/ratable/core/Posted;" (.ref io)) (q3 : Fld Z h0 a "com/example/ratable/ratable/core/PostedById" "size" "I" (.int 2)) (q4 : Arv Z h0 bk kb (.object "com/example/ratable/ratable/core/Posted") (16 : Int32) vs .null) (q5 : Arv Z h0 io ki (.object "com/example/ratable/ratable/core/Posted") (16 : Int32) [(.ref i0), (.ref i1), .null, .null, .null, .null, .null, .null, .null, .null, .null, .null, .null, .null, .null, .null] .null) (q6 : Ovr Z kb "com/example/ratable/ratable/core/Posted") (q7 : Ovr Z ki "com/example/ratable/ratable/core/Posted") (q8 : bk ≠ io) (q9 : Exa Z h0 q "com/example/ratable/ratable/core/Posted") (q10 : Fld Z h0 q "com/example/ratable/ratable/core/Posted" "id" "Ljava/lang/String;" (.ref u)) (q11 : Fld Z h0 q "com/example/ratable/ratable/core/Posted" "hash" "I" (.int (own_hh cs))) (q12 : Fld Z h0 q "com/example/ratable/ratable/core/Posted" "chained" "Lcom/example/ratable/ratable/core/Posted;" .null) (q13 : own_okv vs) (g0 : n0 ≤ a ∧ a < h0.size) (g1 : n0 ≤ io ∧ io < h0.size) (g2 : n0 ≤ q ∧ q < h0.size) (g3 : n0 ≤ bk ∧ bk < h0.size) :
    OMet l Z own_EL n0 yN20 (Jvm.Cond.code yN20 prog_64_method_8_code 2 none :: wc) ({ frames := 1, cells := 0, slots := 0, locals := 14 } : Room) #[(.ref a), (.ref q)] h0 [a, io, q, bk] (fun vq hq => vq = none ∧ Fld Z hq a "com/example/ratable/ratable/core/PostedById" "buckets" "[Lcom/example/ratable/ratable/core/Posted;" (.ref bk) ∧ Fld Z hq a "com/example/ratable/ratable/core/PostedById" "inOrder" "[Lcom/example/ratable/ratable/core/Posted;" (.ref io) ∧ Fld Z hq a "com/example/ratable/ratable/core/PostedById" "size" "I" (.int 3) ∧ Arv Z hq bk kb (.object "com/example/ratable/ratable/core/Posted") (16 : Int32) (own_bset vs cs q) .null ∧ Arv Z hq io ki (.object "com/example/ratable/ratable/core/Posted") (16 : Int32) [(.ref i0), (.ref i1), (.ref q), .null, .null, .null, .null, .null, .null, .null, .null, .null, .null, .null, .null, .null] .null ∧ Fld Z hq q "com/example/ratable/ratable/core/Posted" "id" "Ljava/lang/String;" (.ref u) ∧ Fld Z hq q "com/example/ratable/ratable/core/Posted" "hash" "I" (.int (own_hh cs)) ∧ Fld Z hq q "com/example/ratable/ratable/core/Posted" "chained" "Lcom/example/ratable/ratable/core/Posted;" (own_at vs cs)) := by
  refine own_enter #[.val (.ref a), .val (.ref q)] pn_com_example_ratable_ratable_core_PostedById_put__Lcom_example_ratable_ratable_core_Posted__V (ef_rp_put2 a q bk io u kb ki vs cs i0 i1) hWd.1 O0 (allS g0 (allS g1 (allS g2 (allS g3 all0)))) ?_
  intro p e s m below meth c T0 X0 hnm hret
  refine og_aloadN X0 1 d16_0 rfl rfl rfl ?_
  refine own_get X0 4 d16_1 (host := "") (Or.inl (ow hw 113 rfl)) Via.refl q3 rfl ?_
  intro T1 X2
  refine og_aloadN X2 5 d16_4 rfl rfl rfl ?_
  refine own_get X2 8 d16_5 (host := "") (Or.inl (ow hw 44 rfl)) Via.refl q2 rfl ?_
  intro T3 X4
  refine own_len X4 9 d16_8 q5 rfl ?_
  refine og_icmpY X4 32 d16_9 (XT.ii_ne_t (by decide)) (by decide) (by decide) ?_
  refine og_aloadN X4 33 d16_32 rfl rfl rfl ?_
  refine own_get X4 36 d16_33 (host := "") (Or.inl (ow hw 44 rfl)) Via.refl q2 rfl ?_
  intro T5 X6
  refine og_aloadN X6 37 d16_36 rfl rfl rfl ?_
  refine og_dup X6 38 d16_37 rfl rfl ?_
  refine own_get X6 41 d16_38 (host := "") (Or.inl (ow hw 113 rfl)) Via.refl q3 rfl ?_
  intro T7 X8
  refine og_dupX1 X8 42 d16_41 rfl rfl rfl ?_
  refine og_iconst X8 43 (1 : Int32) d16_42 rfl rfl ?_
  refine og_iadd X8 44 d16_43 rfl ?_
  show OGo _ _ _ _ T7 (mkF m 44 #[.val (.ref a), .val (.ref q)] [(.int 3), (.ref a), (.int 2), (.ref io)])
  refine own_put X8 47 d16_44 (host := "") (Or.inl (ow hw 113 rfl)) Via.refl q3 q0 (Or.inl (ow hw 114 rfl)) (ow hw 35 rfl) (ty := .int) (by decide) rfl rfl (om 0 rfl) rfl ?_
  intro T9 h9 X9 W9 K9 F9
  have f10 := Fld.other W9 q1 (Or.inr (slot_ne (Or.inl (ow hw 43 rfl)) (Or.inl (ow hw 114 rfl)) (by decide) (t := (.array (.object "com/example/ratable/ratable/core/Posted"))) (t' := .int) (by decide) (by decide)))
  have f11 := Fld.other W9 q2 (Or.inr (slot_ne (Or.inl (ow hw 45 rfl)) (Or.inl (ow hw 114 rfl)) (by decide) (t := (.array (.object "com/example/ratable/ratable/core/Posted"))) (t' := .int) (by decide) (by decide)))
  refine og_aloadN X9 48 d16_47 rfl rfl rfl ?_
  have f12 := q5.keep K9 (ninS (Ne.symm (own_neA q0 (ow hw 35 rfl) q5)) nin0)
  have f14 := q9.keep K9
  refine own_stR X9 49 d16_48 f12 rfl rfl (own_sto f12 q7 (Ins.self f14)) (by decide) (by decide) (i := 2) (by decide) (Nat.le_of_ble_eq_true rfl) (om 1 rfl) rfl ?_
  intro T13 h13 X13 W13 K13 A13
  have f15 : Arv Z h13 io ki (.object "com/example/ratable/ratable/core/Posted") (16 : Int32) [(.ref i0), (.ref i1), (.ref q), .null, .null, .null, .null, .null, .null, .null, .null, .null, .null, .null, .null, .null] .null := A13
  refine og_aloadN X13 50 d16_49 rfl rfl rfl ?_
  have f16 := F9.keep K13 (ninS (own_neA ((q0.keep K9).keep K13) (ow hw 35 rfl) f15) nin0)
  refine own_get X13 53 d16_50 (host := "") (Or.inl (ow hw 113 rfl)) Via.refl f16 rfl ?_
  intro T17 X18
  refine og_aloadN X18 54 d16_53 rfl rfl rfl ?_
  have f19 := f10.keep K13 (ninS (own_neA ((q0.keep K9).keep K13) (ow hw 35 rfl) f15) nin0)
  refine own_get X18 57 d16_54 (host := "") (Or.inl (ow hw 42 rfl)) Via.refl f19 rfl ?_
  intro T20 X21
  have f22 := q4.keep K9 (ninS (Ne.symm (own_neA q0 (ow hw 35 rfl) q4)) nin0)
  have f23 := f22.keep K13 (ninS q8 nin0)
  refine own_len X21 58 d16_57 f23 rfl ?_
  refine og_iconst X21 59 (4 : Int32) d16_58 rfl rfl ?_
  refine og_idiv X21 60 d16_59 (by decide) rfl ?_
  show OGo _ _ _ _ T20 (mkF m 60 #[.val (.ref a), .val (.ref q)] [(.int 4), (.int 3)])
  refine og_iconst X21 61 (3 : Int32) d16_60 rfl rfl ?_
  refine og_imul X21 62 d16_61 rfl ?_
  show OGo _ _ _ _ T20 (mkF m 62 #[.val (.ref a), .val (.ref q)] [(.int 12), (.int 3)])
  refine og_icmpY X21 79 d16_62 (XT.ii_le_t (by decide)) (by decide) (by decide) ?_
  refine og_aloadN X21 80 d16_79 rfl rfl rfl ?_
  refine og_aloadN X21 81 d16_80 rfl rfl rfl ?_
  refine own_get X21 84 d16_81 (host := "") (Or.inl (ow hw 42 rfl)) Via.refl f19 rfl ?_
  intro T24 X25
  have f26 := f14.keep K13
  have f28 := q0.keep K9
  have f29 := f28.keep K13
  have f27 := q10.keep K9 (ninS (ne_exa f26 f29 (by decide)) nin0)
  have f30 := f27.keep K13 (ninS (own_neA f26 (ow hw 76 rfl) f15) nin0)
  have f31 := q11.keep K9 (ninS (ne_exa f26 f29 (by decide)) nin0)
  have f32 := f31.keep K13 (ninS (own_neA f26 (ow hw 76 rfl) f15) nin0)
  have f33 := q12.keep K9 (ninS (ne_exa f26 f29 (by decide)) nin0)
  have f34 := f33.keep K13 (ninS (own_neA f26 (ow hw 76 rfl) f15) nin0)
  refine own_stat X25 87 (argsL := [(.ref q), (.ref bk)]) (rest := []) d16_84 (rm17 l Z n0 h13 [] a0 hw hWd X25.old q bk u kb vs cs f26 f30 f32 f34 f23 q6 q13 (own_svb X25 (om 2 rfl)) (own_svb X25 (om 3 rfl))) (ow hw 116 rfl) (ow hw 117 rfl) (ow hw 36 rfl) (ow hw 118 rfl) (by decide) (lenOf pd__28Lcom_2fexample_2fratable_2fratable_2fcore_2fPosted_3b_5bLcom_2fexample_2fratable_2fratable_2fcore_2fPosted_3b_29V rfl) rfl rfl rfl (W := 0) rfl (by decide) (by decide) (by decide) (by decide) (allS (om 2 rfl) (allS (om 3 rfl) all0)) rfl ?_
  intro T35 h35 v35 X35 K35 hQ35
  obtain ⟨rfl, f36, f37, f38, f39⟩ := hQ35
  show OGo _ _ _ _ T35 (mkF m 87 #[.val (.ref a), .val (.ref q)] [])
  have f41 := f29.keep K35
  have f42 := f26.keep K35
  have f40 := f19.keep K35 (ninS (ne_exa f41 f42 (by decide)) (ninS (own_neA (f29.keep K35) (ow hw 35 rfl) f39) nin0))
  have f43 := f11.keep K13 (ninS (own_neA f29 (ow hw 35 rfl) f15) nin0)
  have f44 := f43.keep K35 (ninS (ne_exa f41 f42 (by decide)) (ninS (own_neA f41 (ow hw 35 rfl) f39) nin0))
  have f45 := f16.keep K35 (ninS (ne_exa f41 f42 (by decide)) (ninS (own_neA f41 (ow hw 35 rfl) f39) nin0))
  have f46 := f15.keep K35 (ninS (Ne.symm (own_neA f26 (ow hw 76 rfl) f15)) (ninS (Ne.symm q8) nin0))
  refine own_retV X35 d16_87 hret (by decide) (by decide) ?_
  exact ⟨rfl, f40, f44, f45, f39, f46, f36, f37, f38⟩
theorem rg_0n (a0 : Array Value) (hw : OHw a0 Z) (hWd : OWorld Z a0) (O0 : Old Z n0 h0) (a : Addr) (bk : Addr) (kb : ClassId) (u : Addr) (t : Addr) (kt : ClassId) (cs : List Int32) (q0 : Exa Z h0 a "com/example/ratable/ratable/core/PostedById") (q1 : Fld Z h0 a "com/example/ratable/ratable/core/PostedById" "buckets" "[Lcom/example/ratable/ratable/core/Posted;" (.ref bk)) (q2 : Arv Z h0 bk kb (.object "com/example/ratable/ratable/core/Posted") (16 : Int32) own_V0 .null) (q3 : Exa Z h0 u "java/lang/String") (q4 : Fld Z h0 u "java/lang/String" "coder" "B" (.int 0)) (q5 : Fld Z h0 u "java/lang/String" "value" "[B" (.ref t)) (q6 : Fld Z h0 u "java/lang/String" "hash" "I" (.int 0)) (q7 : Fld Z h0 u "java/lang/String" "hashIsZero" "Z" (.int 0)) (q8 : Exa Z h0 t "[B") (q9 : Arv Z h0 t kt .byte (Int32.ofNat (cs).length) ((cs).map fun c => Value.int (StrChars.lo8 c)) (.int 0)) (q10 : own_good cs) (g0 : n0 ≤ u ∧ u < h0.size) :
    OMet l Z own_EL n0 yN21 (Jvm.Cond.code yN21 prog_64_method_3_code 4 (some (.object "com/example/ratable/ratable/core/Posted")) :: wc) ({ frames := 5, cells := 0, slots := 0, locals := 71 } : Room) #[(.ref a), (.ref u)] h0 [u] (fun vq hq => vq = some .null ∧ Fld Z hq u "java/lang/String" "coder" "B" (.int 0) ∧ Fld Z hq u "java/lang/String" "value" "[B" (.ref t) ∧ Fld Z hq u "java/lang/String" "hash" "I" (.int (own_hc cs)) ∧ Fld Z hq u "java/lang/String" "hashIsZero" "Z" (.int (own_hz cs))) := by
  refine own_enter #[.val (.ref a), .val (.ref u), .unset, .unset] pn_com_example_ratable_ratable_core_PostedById_get__Ljava_lang_String__Lcom_example_ratable_ratable_core_Posted_ (ef_rg_0n a bk kb u t kt cs) hWd.1 O0 (allS g0 all0) ?_
  intro p e s m below meth c T0 X0 hnm hret
  refine og_aloadN X0 1 d9_0 rfl rfl rfl ?_
  refine own_stat X0 4 (argsL := [(.ref u)]) (rest := []) d9_1 (rh_pf l Z n0 h0 [] a0 hw hWd X0.old u t kt cs q3 q4 q5 q6 q7 q8 q9 q10 (own_svb X0 (om 0 rfl))) (ow hw 56 rfl) (ow hw 57 rfl) (ow hw 36 rfl) (ow hw 58 rfl) (by decide) (lenOf pd__28Ljava_2flang_2fString_3b_29I rfl) rfl rfl rfl (W := 0) rfl (by decide) (by decide) (by decide) (by decide) (allS (om 0 rfl) all0) rfl ?_
  intro T1 h1 v1 X1 K1 hQ1
  obtain ⟨rfl, f2, f3, f4, f5⟩ := hQ1
  show OGo _ _ _ _ T1 (mkF m 4 #[.val (.ref a), .val (.ref u), .unset, .unset] [(.int (own_hh cs))])
  refine og_istoreN X1 5 #[.val (.ref a), .val (.ref u), .val (.int (own_hh cs)), .unset] d9_4 rfl rfl ?_
  refine og_aloadN X1 6 d9_5 rfl rfl rfl ?_
  have f7 := q0.keep K1
  have f8 := q3.keep K1
  have f6 := q1.keep K1 (ninS (ne_exa f7 f8 (by decide)) nin0)
  refine own_get X1 9 d9_6 (host := "") (Or.inl (ow hw 42 rfl)) Via.refl f6 rfl ?_
  intro T9 X10
  refine og_iloadN X10 10 d9_9 rfl rfl ?_
  refine og_aloadN X10 11 d9_10 rfl rfl rfl ?_
  refine own_get X10 14 d9_11 (host := "") (Or.inl (ow hw 42 rfl)) Via.refl f6 rfl ?_
  intro T11 X12
  have f13 := q2.keep K1 (ninS (Ne.symm (own_neA q3 (ow hw 14 rfl) q2)) nin0)
  refine own_len X12 15 d9_14 f13 rfl ?_
  refine og_iconst X12 16 (1 : Int32) d9_15 rfl rfl ?_
  refine og_isub X12 17 d9_16 rfl ?_
  show OGo _ _ _ _ T11 (mkF m 17 #[.val (.ref a), .val (.ref u), .val (.int (own_hh cs)), .unset] [(.int 15), (.int (own_hh cs)), (.ref bk)])
  refine og_iand X12 18 d9_17 rfl ?_
  refine own_ldR X12 19 d9_18 f13 rfl (v := .null) (own_jx0 _) (own_jx1 _) (own_at0 cs) rfl ?_
  refine og_astoreN X12 20 #[.val (.ref a), .val (.ref u), .val (.int (own_hh cs)), .val .null] d9_19 rfl rfl rfl ?_
  refine og_aloadN X12 21 d9_20 rfl rfl rfl ?_
  refine og_nullY X12 53 d9_21 (by decide) (by decide) ?_
  refine og_aconstNull X12 54 d9_53 rfl ?_
  refine own_retA X12 d9_54 hret rfl rfl (by decide) (by decide) ?_
  exact ⟨rfl, f2, f3, f4, f5⟩
theorem rg_1f0 (a0 : Array Value) (hw : OHw a0 Z) (hWd : OWorld Z a0) (O0 : Old Z n0 h0) (a : Addr) (bk : Addr) (kb : ClassId) (u : Addr) (t : Addr) (kt : ClassId) (p0 : Addr) (u0 : Addr) (t0 : Addr) (k0 : ClassId) (c0 : List Int32) (q0 : Exa Z h0 a "com/example/ratable/ratable/core/PostedById") (q1 : Fld Z h0 a "com/example/ratable/ratable/core/PostedById" "buckets" "[Lcom/example/ratable/ratable/core/Posted;" (.ref bk)) (q2 : Arv Z h0 bk kb (.object "com/example/ratable/ratable/core/Posted") (16 : Int32) (own_bset own_V0 c0 p0) .null) (q3 : Exa Z h0 p0 "com/example/ratable/ratable/core/Posted") (q4 : Fld Z h0 p0 "com/example/ratable/ratable/core/Posted" "id" "Ljava/lang/String;" (.ref u0)) (q5 : Fld Z h0 p0 "com/example/ratable/ratable/core/Posted" "hash" "I" (.int (own_hh c0))) (q6 : Fld Z h0 p0 "com/example/ratable/ratable/core/Posted" "chained" "Lcom/example/ratable/ratable/core/Posted;" .null) (q7 : Exa Z h0 u0 "java/lang/String") (q8 : Fld Z h0 u0 "java/lang/String" "coder" "B" (.int 0)) (q9 : Fld Z h0 u0 "java/lang/String" "value" "[B" (.ref t0)) (q10 : Arv Z h0 t0 k0 .byte (Int32.ofNat (c0).length) ((c0).map fun c => Value.int (StrChars.lo8 c)) (.int 0)) (q11 : own_good c0) (q12 : Exa Z h0 u "java/lang/String") (q13 : Fld Z h0 u "java/lang/String" "coder" "B" (.int 0)) (q14 : Fld Z h0 u "java/lang/String" "value" "[B" (.ref t)) (q15 : Fld Z h0 u "java/lang/String" "hash" "I" (.int 0)) (q16 : Fld Z h0 u "java/lang/String" "hashIsZero" "Z" (.int 0)) (q17 : Exa Z h0 t "[B") (q18 : Arv Z h0 t kt .byte (Int32.ofNat (c0).length) ((c0).map fun c => Value.int (StrChars.lo8 c)) (.int 0)) (q19 : own_good c0) (q20 : u ≠ u0) (g0 : n0 ≤ u ∧ u < h0.size) :
    OMet l Z own_EL n0 yN21 (Jvm.Cond.code yN21 prog_64_method_3_code 4 (some (.object "com/example/ratable/ratable/core/Posted")) :: wc) ({ frames := 5, cells := 0, slots := 0, locals := 71 } : Room) #[(.ref a), (.ref u)] h0 [u] (fun vq hq => vq = some (.ref p0) ∧ Fld Z hq u "java/lang/String" "coder" "B" (.int 0) ∧ Fld Z hq u "java/lang/String" "value" "[B" (.ref t) ∧ Fld Z hq u "java/lang/String" "hash" "I" (.int (own_hc c0)) ∧ Fld Z hq u "java/lang/String" "hashIsZero" "Z" (.int (own_hz c0))) := by
  refine own_enter #[.val (.ref a), .val (.ref u), .unset, .unset] pn_com_example_ratable_ratable_core_PostedById_get__Ljava_lang_String__Lcom_example_ratable_ratable_core_Posted_ (ef_rg_1f0 a bk kb u t kt p0 u0 t0 k0 c0) hWd.1 O0 (allS g0 all0) ?_
  intro p e s m below meth c T0 X0 hnm hret
  refine og_aloadN X0 1 d9_0 rfl rfl rfl ?_
  refine own_stat X0 4 (argsL := [(.ref u)]) (rest := []) d9_1 (rh_pf l Z n0 h0 [] a0 hw hWd X0.old u t kt c0 q12 q13 q14 q15 q16 q17 q18 q19 (own_svb X0 (om 0 rfl))) (ow hw 56 rfl) (ow hw 57 rfl) (ow hw 36 rfl) (ow hw 58 rfl) (by decide) (lenOf pd__28Ljava_2flang_2fString_3b_29I rfl) rfl rfl rfl (W := 0) rfl (by decide) (by decide) (by decide) (by decide) (allS (om 0 rfl) all0) rfl ?_
  intro T1 h1 v1 X1 K1 hQ1
  obtain ⟨rfl, f2, f3, f4, f5⟩ := hQ1
  show OGo _ _ _ _ T1 (mkF m 4 #[.val (.ref a), .val (.ref u), .unset, .unset] [(.int (own_hh c0))])
  refine og_istoreN X1 5 #[.val (.ref a), .val (.ref u), .val (.int (own_hh c0)), .unset] d9_4 rfl rfl ?_
  refine og_aloadN X1 6 d9_5 rfl rfl rfl ?_
  have f7 := q0.keep K1
  have f8 := q12.keep K1
  have f6 := q1.keep K1 (ninS (ne_exa f7 f8 (by decide)) nin0)
  refine own_get X1 9 d9_6 (host := "") (Or.inl (ow hw 42 rfl)) Via.refl f6 rfl ?_
  intro T9 X10
  refine og_iloadN X10 10 d9_9 rfl rfl ?_
  refine og_aloadN X10 11 d9_10 rfl rfl rfl ?_
  refine own_get X10 14 d9_11 (host := "") (Or.inl (ow hw 42 rfl)) Via.refl f6 rfl ?_
  intro T11 X12
  have f13 := q2.keep K1 (ninS (Ne.symm (own_neA q12 (ow hw 14 rfl) q2)) nin0)
  refine own_len X12 15 d9_14 f13 rfl ?_
  refine og_iconst X12 16 (1 : Int32) d9_15 rfl rfl ?_
  refine og_isub X12 17 d9_16 rfl ?_
  show OGo _ _ _ _ T11 (mkF m 17 #[.val (.ref a), .val (.ref u), .val (.int (own_hh c0)), .unset] [(.int 15), (.int (own_hh c0)), (.ref bk)])
  refine og_iand X12 18 d9_17 rfl ?_
  refine own_ldR X12 19 d9_18 f13 rfl (v := (.ref p0)) (own_jx0 _) (own_jx1 _) (own_atH own_ok0 rfl) rfl ?_
  refine og_astoreN X12 20 #[.val (.ref a), .val (.ref u), .val (.int (own_hh c0)), .val (.ref p0)] d9_19 rfl rfl rfl ?_
  refine og_aloadN X12 21 d9_20 rfl rfl rfl ?_
  refine og_nullN X12 24 d9_21 rfl ?_
  refine og_aloadN X12 25 d9_24 rfl rfl rfl ?_
  have f15 := q3.keep K1
  have f14 := q5.keep K1 (ninS (ne_exa f15 f8 (by decide)) nin0)
  refine own_get X12 28 d9_25 (host := "") (Or.inl (ow hw 119 rfl)) Via.refl f14 rfl ?_
  intro T16 X17
  refine og_iloadN X17 29 d9_28 rfl rfl ?_
  refine og_icmpN X17 32 d9_29 (XT.ii_ne_f rfl) rfl ?_
  refine og_aloadN X17 33 d9_32 rfl rfl rfl ?_
  have f18 := q4.keep K1 (ninS (ne_exa f15 f8 (by decide)) nin0)
  refine own_get X17 36 d9_33 (host := "") (Or.inl (ow hw 178 rfl)) Via.refl f18 rfl ?_
  intro T19 X20
  refine og_aloadN X20 37 d9_36 rfl rfl rfl ?_
  have f21 := q7.keep K1
  have f22 := q8.keep K1 (ninS (Ne.symm q20) nin0)
  have f23 := q9.keep K1 (ninS (Ne.symm q20) nin0)
  have f24 := q10.keep K1 (ninS (Ne.symm (own_neA q12 (ow hw 14 rfl) q10)) nin0)
  have f25 := own_rawS f21 f22 f23 f24 q19
  have f27 := q17.keep K1
  have f26 := q18.keep K1 (ninS (ne_exa f27 f8 (by decide)) nin0)
  have f28 := own_rawS f8 f2 f3 f26 q19
  refine own_strEq X20 40 d9_37 f25 f28 (own_wE hw) (ow hw 14 rfl) hWd.2.1 hWd.2.2 (ow hw 179 rfl) (ow hw 145 rfl) (ow hw 147 rfl) (ow hw 146 rfl) rfl (W := 0) rfl (by decide) (by decide) (by decide) (by decide) rfl ?_
  intro T29 X30
  refine og_ifN X30 43 d9_40 (XT.i0_eq_f (own_eqbS _)) rfl ?_
  refine og_aloadN X30 44 d9_43 rfl rfl rfl ?_
  refine own_retA X30 d9_44 hret rfl rfl (by decide) (by decide) ?_
  exact ⟨rfl, f2, f3, f4, f5⟩
theorem rg_1n (a0 : Array Value) (hw : OHw a0 Z) (hWd : OWorld Z a0) (O0 : Old Z n0 h0) (a : Addr) (bk : Addr) (kb : ClassId) (u : Addr) (t : Addr) (kt : ClassId) (cs : List Int32) (p0 : Addr) (u0 : Addr) (t0 : Addr) (k0 : ClassId) (c0 : List Int32) (q0 : Exa Z h0 a "com/example/ratable/ratable/core/PostedById") (q1 : Fld Z h0 a "com/example/ratable/ratable/core/PostedById" "buckets" "[Lcom/example/ratable/ratable/core/Posted;" (.ref bk)) (q2 : Arv Z h0 bk kb (.object "com/example/ratable/ratable/core/Posted") (16 : Int32) (own_bset own_V0 c0 p0) .null) (q3 : Exa Z h0 p0 "com/example/ratable/ratable/core/Posted") (q4 : Fld Z h0 p0 "com/example/ratable/ratable/core/Posted" "id" "Ljava/lang/String;" (.ref u0)) (q5 : Fld Z h0 p0 "com/example/ratable/ratable/core/Posted" "hash" "I" (.int (own_hh c0))) (q6 : Fld Z h0 p0 "com/example/ratable/ratable/core/Posted" "chained" "Lcom/example/ratable/ratable/core/Posted;" .null) (q7 : Exa Z h0 u0 "java/lang/String") (q8 : Fld Z h0 u0 "java/lang/String" "coder" "B" (.int 0)) (q9 : Fld Z h0 u0 "java/lang/String" "value" "[B" (.ref t0)) (q10 : Arv Z h0 t0 k0 .byte (Int32.ofNat (c0).length) ((c0).map fun c => Value.int (StrChars.lo8 c)) (.int 0)) (q11 : own_good c0) (q12 : Exa Z h0 u "java/lang/String") (q13 : Fld Z h0 u "java/lang/String" "coder" "B" (.int 0)) (q14 : Fld Z h0 u "java/lang/String" "value" "[B" (.ref t)) (q15 : Fld Z h0 u "java/lang/String" "hash" "I" (.int 0)) (q16 : Fld Z h0 u "java/lang/String" "hashIsZero" "Z" (.int 0)) (q17 : Exa Z h0 t "[B") (q18 : Arv Z h0 t kt .byte (Int32.ofNat (cs).length) ((cs).map fun c => Value.int (StrChars.lo8 c)) (.int 0)) (q19 : own_good cs) (q20 : u ≠ u0) (q21 : ¬ c0 = cs) (g0 : n0 ≤ u ∧ u < h0.size) :
    OMet l Z own_EL n0 yN21 (Jvm.Cond.code yN21 prog_64_method_3_code 4 (some (.object "com/example/ratable/ratable/core/Posted")) :: wc) ({ frames := 5, cells := 0, slots := 0, locals := 71 } : Room) #[(.ref a), (.ref u)] h0 [u] (fun vq hq => vq = some .null ∧ Fld Z hq u "java/lang/String" "coder" "B" (.int 0) ∧ Fld Z hq u "java/lang/String" "value" "[B" (.ref t) ∧ Fld Z hq u "java/lang/String" "hash" "I" (.int (own_hc cs)) ∧ Fld Z hq u "java/lang/String" "hashIsZero" "Z" (.int (own_hz cs))) := by
  refine own_enter #[.val (.ref a), .val (.ref u), .unset, .unset] pn_com_example_ratable_ratable_core_PostedById_get__Ljava_lang_String__Lcom_example_ratable_ratable_core_Posted_ (ef_rg_1n a bk kb u t kt cs p0 u0 t0 k0 c0) hWd.1 O0 (allS g0 all0) ?_
  intro p e s m below meth c T0 X0 hnm hret
  refine og_aloadN X0 1 d9_0 rfl rfl rfl ?_
  refine own_stat X0 4 (argsL := [(.ref u)]) (rest := []) d9_1 (rh_pf l Z n0 h0 [] a0 hw hWd X0.old u t kt cs q12 q13 q14 q15 q16 q17 q18 q19 (own_svb X0 (om 0 rfl))) (ow hw 56 rfl) (ow hw 57 rfl) (ow hw 36 rfl) (ow hw 58 rfl) (by decide) (lenOf pd__28Ljava_2flang_2fString_3b_29I rfl) rfl rfl rfl (W := 0) rfl (by decide) (by decide) (by decide) (by decide) (allS (om 0 rfl) all0) rfl ?_
  intro T1 h1 v1 X1 K1 hQ1
  obtain ⟨rfl, f2, f3, f4, f5⟩ := hQ1
  show OGo _ _ _ _ T1 (mkF m 4 #[.val (.ref a), .val (.ref u), .unset, .unset] [(.int (own_hh cs))])
  refine og_istoreN X1 5 #[.val (.ref a), .val (.ref u), .val (.int (own_hh cs)), .unset] d9_4 rfl rfl ?_
  refine og_aloadN X1 6 d9_5 rfl rfl rfl ?_
  have f7 := q0.keep K1
  have f8 := q12.keep K1
  have f6 := q1.keep K1 (ninS (ne_exa f7 f8 (by decide)) nin0)
  refine own_get X1 9 d9_6 (host := "") (Or.inl (ow hw 42 rfl)) Via.refl f6 rfl ?_
  intro T9 X10
  refine og_iloadN X10 10 d9_9 rfl rfl ?_
  refine og_aloadN X10 11 d9_10 rfl rfl rfl ?_
  refine own_get X10 14 d9_11 (host := "") (Or.inl (ow hw 42 rfl)) Via.refl f6 rfl ?_
  intro T11 X12
  have f13 := q2.keep K1 (ninS (Ne.symm (own_neA q12 (ow hw 14 rfl) q2)) nin0)
  refine own_len X12 15 d9_14 f13 rfl ?_
  refine og_iconst X12 16 (1 : Int32) d9_15 rfl rfl ?_
  refine og_isub X12 17 d9_16 rfl ?_
  show OGo _ _ _ _ T11 (mkF m 17 #[.val (.ref a), .val (.ref u), .val (.int (own_hh cs)), .unset] [(.int 15), (.int (own_hh cs)), (.ref bk)])
  refine og_iand X12 18 d9_17 rfl ?_
  by_cases hc14 : own_ji cs = own_ji c0
  · -- own_ji cs = own_ji c0
    refine own_ldR X12 19 d9_18 f13 rfl (v := (.ref p0)) (own_jx0 _) (own_jx1 _) (own_atH own_ok0 hc14) rfl ?_
    refine og_astoreN X12 20 #[.val (.ref a), .val (.ref u), .val (.int (own_hh cs)), .val (.ref p0)] d9_19 rfl rfl rfl ?_
    refine og_aloadN X12 21 d9_20 rfl rfl rfl ?_
    refine og_nullN X12 24 d9_21 rfl ?_
    refine og_aloadN X12 25 d9_24 rfl rfl rfl ?_
    have f16 := q3.keep K1
    have f15 := q5.keep K1 (ninS (ne_exa f16 f8 (by decide)) nin0)
    refine own_get X12 28 d9_25 (host := "") (Or.inl (ow hw 119 rfl)) Via.refl f15 rfl ?_
    intro T17 X18
    refine og_iloadN X18 29 d9_28 rfl rfl ?_
    by_cases hc19 : (own_hh c0) = (own_hh cs)
    · -- (own_hh c0) = (own_hh cs)
      refine og_icmpN X18 32 d9_29 (XT.ii_ne_f hc19) rfl ?_
      refine og_aloadN X18 33 d9_32 rfl rfl rfl ?_
      have f20 := q4.keep K1 (ninS (ne_exa f16 f8 (by decide)) nin0)
      refine own_get X18 36 d9_33 (host := "") (Or.inl (ow hw 178 rfl)) Via.refl f20 rfl ?_
      intro T21 X22
      refine og_aloadN X22 37 d9_36 rfl rfl rfl ?_
      have f23 := q7.keep K1
      have f24 := q8.keep K1 (ninS (Ne.symm q20) nin0)
      have f25 := q9.keep K1 (ninS (Ne.symm q20) nin0)
      have f26 := q10.keep K1 (ninS (Ne.symm (own_neA q12 (ow hw 14 rfl) q10)) nin0)
      have f27 := own_rawS f23 f24 f25 f26 q11
      have f29 := q17.keep K1
      have f28 := q18.keep K1 (ninS (ne_exa f29 f8 (by decide)) nin0)
      have f30 := own_rawS f8 f2 f3 f28 q19
      refine own_strEq X22 40 d9_37 f27 f30 (own_wE hw) (ow hw 14 rfl) hWd.2.1 hWd.2.2 (ow hw 179 rfl) (ow hw 145 rfl) (ow hw 147 rfl) (ow hw 146 rfl) rfl (W := 0) rfl (by decide) (by decide) (by decide) (by decide) rfl ?_
      intro T31 X32
      refine og_ifY X32 45 d9_40 (XT.i0_eq_t (own_eqb0.mpr q21)) (by decide) (by decide) ?_
      refine og_aloadN X32 46 d9_45 rfl rfl rfl ?_
      have f33 := q6.keep K1 (ninS (ne_exa f16 f8 (by decide)) nin0)
      refine own_get X32 49 d9_46 (host := "") (Or.inl (ow hw 120 rfl)) Via.refl f33 rfl ?_
      intro T34 X35
      refine og_astoreN X35 50 #[.val (.ref a), .val (.ref u), .val (.int (own_hh cs)), .val .null] d9_49 rfl rfl rfl ?_
      refine og_goto X35 20 d9_50 (by decide) (by decide) ?_
      refine og_aloadN X35 21 d9_20 rfl rfl rfl ?_
      refine og_nullY X35 53 d9_21 (by decide) (by decide) ?_
      refine og_aconstNull X35 54 d9_53 rfl ?_
      refine own_retA X35 d9_54 hret rfl rfl (by decide) (by decide) ?_
      exact ⟨rfl, f2, f3, f4, f5⟩
    · -- not
      refine og_icmpY X18 45 d9_29 (XT.ii_ne_t hc19) (by decide) (by decide) ?_
      refine og_aloadN X18 46 d9_45 rfl rfl rfl ?_
      have f36 := q6.keep K1 (ninS (ne_exa f16 f8 (by decide)) nin0)
      refine own_get X18 49 d9_46 (host := "") (Or.inl (ow hw 120 rfl)) Via.refl f36 rfl ?_
      intro T37 X38
      refine og_astoreN X38 50 #[.val (.ref a), .val (.ref u), .val (.int (own_hh cs)), .val .null] d9_49 rfl rfl rfl ?_
      refine og_goto X38 20 d9_50 (by decide) (by decide) ?_
      refine og_aloadN X38 21 d9_20 rfl rfl rfl ?_
      refine og_nullY X38 53 d9_21 (by decide) (by decide) ?_
      refine og_aconstNull X38 54 d9_53 rfl ?_
      refine own_retA X38 d9_54 hret rfl rfl (by decide) (by decide) ?_
      exact ⟨rfl, f2, f3, f4, f5⟩
  · -- not
    refine own_ldR X12 19 d9_18 f13 rfl (v := .null) (own_jx0 _) (own_jx1 _) ((own_atM hc14).trans (own_at0 cs)) rfl ?_
    refine og_astoreN X12 20 #[.val (.ref a), .val (.ref u), .val (.int (own_hh cs)), .val .null] d9_19 rfl rfl rfl ?_
    refine og_aloadN X12 21 d9_20 rfl rfl rfl ?_
    refine og_nullY X12 53 d9_21 (by decide) (by decide) ?_
    refine og_aconstNull X12 54 d9_53 rfl ?_
    refine own_retA X12 d9_54 hret rfl rfl (by decide) (by decide) ?_
    exact ⟨rfl, f2, f3, f4, f5⟩
theorem rg_2f0 (a0 : Array Value) (hw : OHw a0 Z) (hWd : OWorld Z a0) (O0 : Old Z n0 h0) (a : Addr) (bk : Addr) (kb : ClassId) (u : Addr) (t : Addr) (kt : ClassId) (p0 : Addr) (u0 : Addr) (t0 : Addr) (k0 : ClassId) (c0 : List Int32) (p1 : Addr) (u1 : Addr) (t1 : Addr) (k1 : ClassId) (c1 : List Int32) (q0 : Exa Z h0 a "com/example/ratable/ratable/core/PostedById") (q1 : Fld Z h0 a "com/example/ratable/ratable/core/PostedById" "buckets" "[Lcom/example/ratable/ratable/core/Posted;" (.ref bk)) (q2 : Arv Z h0 bk kb (.object "com/example/ratable/ratable/core/Posted") (16 : Int32) (own_bset (own_bset own_V0 c0 p0) c1 p1) .null) (q3 : Exa Z h0 p0 "com/example/ratable/ratable/core/Posted") (q4 : Fld Z h0 p0 "com/example/ratable/ratable/core/Posted" "id" "Ljava/lang/String;" (.ref u0)) (q5 : Fld Z h0 p0 "com/example/ratable/ratable/core/Posted" "hash" "I" (.int (own_hh c0))) (q6 : Fld Z h0 p0 "com/example/ratable/ratable/core/Posted" "chained" "Lcom/example/ratable/ratable/core/Posted;" .null) (q7 : Exa Z h0 u0 "java/lang/String") (q8 : Fld Z h0 u0 "java/lang/String" "coder" "B" (.int 0)) (q9 : Fld Z h0 u0 "java/lang/String" "value" "[B" (.ref t0)) (q10 : Arv Z h0 t0 k0 .byte (Int32.ofNat (c0).length) ((c0).map fun c => Value.int (StrChars.lo8 c)) (.int 0)) (q11 : own_good c0) (q12 : Exa Z h0 p1 "com/example/ratable/ratable/core/Posted") (q13 : Fld Z h0 p1 "com/example/ratable/ratable/core/Posted" "id" "Ljava/lang/String;" (.ref u1)) (q14 : Fld Z h0 p1 "com/example/ratable/ratable/core/Posted" "hash" "I" (.int (own_hh c1))) (q15 : Fld Z h0 p1 "com/example/ratable/ratable/core/Posted" "chained" "Lcom/example/ratable/ratable/core/Posted;" (own_at (own_bset own_V0 c0 p0) c1)) (q16 : Exa Z h0 u1 "java/lang/String") (q17 : Fld Z h0 u1 "java/lang/String" "coder" "B" (.int 0)) (q18 : Fld Z h0 u1 "java/lang/String" "value" "[B" (.ref t1)) (q19 : Arv Z h0 t1 k1 .byte (Int32.ofNat (c1).length) ((c1).map fun c => Value.int (StrChars.lo8 c)) (.int 0)) (q20 : own_good c1) (q21 : Exa Z h0 u "java/lang/String") (q22 : Fld Z h0 u "java/lang/String" "coder" "B" (.int 0)) (q23 : Fld Z h0 u "java/lang/String" "value" "[B" (.ref t)) (q24 : Fld Z h0 u "java/lang/String" "hash" "I" (.int 0)) (q25 : Fld Z h0 u "java/lang/String" "hashIsZero" "Z" (.int 0)) (q26 : Exa Z h0 t "[B") (q27 : Arv Z h0 t kt .byte (Int32.ofNat (c0).length) ((c0).map fun c => Value.int (StrChars.lo8 c)) (.int 0)) (q28 : own_good c0) (q29 : u ≠ u0) (q30 : u ≠ u1) (q31 : ¬ c0 = c1) (g0 : n0 ≤ u ∧ u < h0.size) :
    OMet l Z own_EL n0 yN21 (Jvm.Cond.code yN21 prog_64_method_3_code 4 (some (.object "com/example/ratable/ratable/core/Posted")) :: wc) ({ frames := 5, cells := 0, slots := 0, locals := 71 } : Room) #[(.ref a), (.ref u)] h0 [u] (fun vq hq => vq = some (.ref p0) ∧ Fld Z hq u "java/lang/String" "coder" "B" (.int 0) ∧ Fld Z hq u "java/lang/String" "value" "[B" (.ref t) ∧ Fld Z hq u "java/lang/String" "hash" "I" (.int (own_hc c0)) ∧ Fld Z hq u "java/lang/String" "hashIsZero" "Z" (.int (own_hz c0))) := by
  refine own_enter #[.val (.ref a), .val (.ref u), .unset, .unset] pn_com_example_ratable_ratable_core_PostedById_get__Ljava_lang_String__Lcom_example_ratable_ratable_core_Posted_ (ef_rg_2f0 a bk kb u t kt p0 u0 t0 k0 c0 p1 u1 t1 k1 c1) hWd.1 O0 (allS g0 all0) ?_
  intro p e s m below meth c T0 X0 hnm hret
  refine og_aloadN X0 1 d9_0 rfl rfl rfl ?_
  refine own_stat X0 4 (argsL := [(.ref u)]) (rest := []) d9_1 (rh_pf l Z n0 h0 [] a0 hw hWd X0.old u t kt c0 q21 q22 q23 q24 q25 q26 q27 q28 (own_svb X0 (om 0 rfl))) (ow hw 56 rfl) (ow hw 57 rfl) (ow hw 36 rfl) (ow hw 58 rfl) (by decide) (lenOf pd__28Ljava_2flang_2fString_3b_29I rfl) rfl rfl rfl (W := 0) rfl (by decide) (by decide) (by decide) (by decide) (allS (om 0 rfl) all0) rfl ?_
  intro T1 h1 v1 X1 K1 hQ1
  obtain ⟨rfl, f2, f3, f4, f5⟩ := hQ1
  show OGo _ _ _ _ T1 (mkF m 4 #[.val (.ref a), .val (.ref u), .unset, .unset] [(.int (own_hh c0))])
  refine og_istoreN X1 5 #[.val (.ref a), .val (.ref u), .val (.int (own_hh c0)), .unset] d9_4 rfl rfl ?_
  refine og_aloadN X1 6 d9_5 rfl rfl rfl ?_
  have f7 := q0.keep K1
  have f8 := q21.keep K1
  have f6 := q1.keep K1 (ninS (ne_exa f7 f8 (by decide)) nin0)
  refine own_get X1 9 d9_6 (host := "") (Or.inl (ow hw 42 rfl)) Via.refl f6 rfl ?_
  intro T9 X10
  refine og_iloadN X10 10 d9_9 rfl rfl ?_
  refine og_aloadN X10 11 d9_10 rfl rfl rfl ?_
  refine own_get X10 14 d9_11 (host := "") (Or.inl (ow hw 42 rfl)) Via.refl f6 rfl ?_
  intro T11 X12
  have f13 := q2.keep K1 (ninS (Ne.symm (own_neA q21 (ow hw 14 rfl) q2)) nin0)
  refine own_len X12 15 d9_14 f13 rfl ?_
  refine og_iconst X12 16 (1 : Int32) d9_15 rfl rfl ?_
  refine og_isub X12 17 d9_16 rfl ?_
  show OGo _ _ _ _ T11 (mkF m 17 #[.val (.ref a), .val (.ref u), .val (.int (own_hh c0)), .unset] [(.int 15), (.int (own_hh c0)), (.ref bk)])
  refine og_iand X12 18 d9_17 rfl ?_
  by_cases hc14 : own_ji c0 = own_ji c1
  · -- own_ji c0 = own_ji c1
    refine own_ldR X12 19 d9_18 f13 rfl (v := (.ref p1)) (own_jx0 _) (own_jx1 _) (own_atH (own_okP own_ok0 _ _) hc14) rfl ?_
    refine og_astoreN X12 20 #[.val (.ref a), .val (.ref u), .val (.int (own_hh c0)), .val (.ref p1)] d9_19 rfl rfl rfl ?_
    refine og_aloadN X12 21 d9_20 rfl rfl rfl ?_
    refine og_nullN X12 24 d9_21 rfl ?_
    refine og_aloadN X12 25 d9_24 rfl rfl rfl ?_
    have f16 := q12.keep K1
    have f15 := q14.keep K1 (ninS (ne_exa f16 f8 (by decide)) nin0)
    refine own_get X12 28 d9_25 (host := "") (Or.inl (ow hw 119 rfl)) Via.refl f15 rfl ?_
    intro T17 X18
    refine og_iloadN X18 29 d9_28 rfl rfl ?_
    by_cases hc19 : (own_hh c1) = (own_hh c0)
    · -- (own_hh c1) = (own_hh c0)
      refine og_icmpN X18 32 d9_29 (XT.ii_ne_f hc19) rfl ?_
      refine og_aloadN X18 33 d9_32 rfl rfl rfl ?_
      have f20 := q13.keep K1 (ninS (ne_exa f16 f8 (by decide)) nin0)
      refine own_get X18 36 d9_33 (host := "") (Or.inl (ow hw 178 rfl)) Via.refl f20 rfl ?_
      intro T21 X22
      refine og_aloadN X22 37 d9_36 rfl rfl rfl ?_
      have f23 := q16.keep K1
      have f24 := q17.keep K1 (ninS (Ne.symm q30) nin0)
      have f25 := q18.keep K1 (ninS (Ne.symm q30) nin0)
      have f26 := q19.keep K1 (ninS (Ne.symm (own_neA q21 (ow hw 14 rfl) q19)) nin0)
      have f27 := own_rawS f23 f24 f25 f26 q20
      have f29 := q26.keep K1
      have f28 := q27.keep K1 (ninS (ne_exa f29 f8 (by decide)) nin0)
      have f30 := own_rawS f8 f2 f3 f28 q28
      refine own_strEq X22 40 d9_37 f27 f30 (own_wE hw) (ow hw 14 rfl) hWd.2.1 hWd.2.2 (ow hw 179 rfl) (ow hw 145 rfl) (ow hw 147 rfl) (ow hw 146 rfl) rfl (W := 0) rfl (by decide) (by decide) (by decide) (by decide) rfl ?_
      intro T31 X32
      refine og_ifY X32 45 d9_40 (XT.i0_eq_t (own_eqb0.mpr (fun q => q31 q.symm))) (by decide) (by decide) ?_
      refine og_aloadN X32 46 d9_45 rfl rfl rfl ?_
      have f33 := q15.keep K1 (ninS (ne_exa f16 f8 (by decide)) nin0)
      have f34 : Fld Z h1 p1 "com/example/ratable/ratable/core/Posted" "chained" "Lcom/example/ratable/ratable/core/Posted;" (.ref p0) := (by have q := f33; rwa [own_atH (b := p0) own_ok0 hc14.symm] at q)
      refine own_get X32 49 d9_46 (host := "") (Or.inl (ow hw 120 rfl)) Via.refl f34 rfl ?_
      intro T35 X36
      refine og_astoreN X36 50 #[.val (.ref a), .val (.ref u), .val (.int (own_hh c0)), .val (.ref p0)] d9_49 rfl rfl rfl ?_
      refine og_goto X36 20 d9_50 (by decide) (by decide) ?_
      refine og_aloadN X36 21 d9_20 rfl rfl rfl ?_
      refine og_nullN X36 24 d9_21 rfl ?_
      refine og_aloadN X36 25 d9_24 rfl rfl rfl ?_
      have f38 := q3.keep K1
      have f37 := q5.keep K1 (ninS (ne_exa f38 f8 (by decide)) nin0)
      refine own_get X36 28 d9_25 (host := "") (Or.inl (ow hw 119 rfl)) Via.refl f37 rfl ?_
      intro T39 X40
      refine og_iloadN X40 29 d9_28 rfl rfl ?_
      refine og_icmpN X40 32 d9_29 (XT.ii_ne_f rfl) rfl ?_
      refine og_aloadN X40 33 d9_32 rfl rfl rfl ?_
      have f41 := q4.keep K1 (ninS (ne_exa f38 f8 (by decide)) nin0)
      refine own_get X40 36 d9_33 (host := "") (Or.inl (ow hw 178 rfl)) Via.refl f41 rfl ?_
      intro T42 X43
      refine og_aloadN X43 37 d9_36 rfl rfl rfl ?_
      have f44 := q7.keep K1
      have f45 := q8.keep K1 (ninS (Ne.symm q29) nin0)
      have f46 := q9.keep K1 (ninS (Ne.symm q29) nin0)
      have f47 := q10.keep K1 (ninS (Ne.symm (own_neA q21 (ow hw 14 rfl) q10)) nin0)
      have f48 := own_rawS f44 f45 f46 f47 q28
      have f49 := own_rawS f8 f2 f3 f28 q28
      refine own_strEq X43 40 d9_37 f48 f49 (own_wE hw) (ow hw 14 rfl) hWd.2.1 hWd.2.2 (ow hw 179 rfl) (ow hw 145 rfl) (ow hw 147 rfl) (ow hw 146 rfl) rfl (W := 0) rfl (by decide) (by decide) (by decide) (by decide) rfl ?_
      intro T50 X51
      refine og_ifN X51 43 d9_40 (XT.i0_eq_f (own_eqbS _)) rfl ?_
      refine og_aloadN X51 44 d9_43 rfl rfl rfl ?_
      refine own_retA X51 d9_44 hret rfl rfl (by decide) (by decide) ?_
      exact ⟨rfl, f2, f3, f4, f5⟩
    · -- not
      refine og_icmpY X18 45 d9_29 (XT.ii_ne_t hc19) (by decide) (by decide) ?_
      refine og_aloadN X18 46 d9_45 rfl rfl rfl ?_
      have f52 := q15.keep K1 (ninS (ne_exa f16 f8 (by decide)) nin0)
      have f53 : Fld Z h1 p1 "com/example/ratable/ratable/core/Posted" "chained" "Lcom/example/ratable/ratable/core/Posted;" (.ref p0) := (by have q := f52; rwa [own_atH (b := p0) own_ok0 hc14.symm] at q)
      refine own_get X18 49 d9_46 (host := "") (Or.inl (ow hw 120 rfl)) Via.refl f53 rfl ?_
      intro T54 X55
      refine og_astoreN X55 50 #[.val (.ref a), .val (.ref u), .val (.int (own_hh c0)), .val (.ref p0)] d9_49 rfl rfl rfl ?_
      refine og_goto X55 20 d9_50 (by decide) (by decide) ?_
      refine og_aloadN X55 21 d9_20 rfl rfl rfl ?_
      refine og_nullN X55 24 d9_21 rfl ?_
      refine og_aloadN X55 25 d9_24 rfl rfl rfl ?_
      have f57 := q3.keep K1
      have f56 := q5.keep K1 (ninS (ne_exa f57 f8 (by decide)) nin0)
      refine own_get X55 28 d9_25 (host := "") (Or.inl (ow hw 119 rfl)) Via.refl f56 rfl ?_
      intro T58 X59
      refine og_iloadN X59 29 d9_28 rfl rfl ?_
      refine og_icmpN X59 32 d9_29 (XT.ii_ne_f rfl) rfl ?_
      refine og_aloadN X59 33 d9_32 rfl rfl rfl ?_
      have f60 := q4.keep K1 (ninS (ne_exa f57 f8 (by decide)) nin0)
      refine own_get X59 36 d9_33 (host := "") (Or.inl (ow hw 178 rfl)) Via.refl f60 rfl ?_
      intro T61 X62
      refine og_aloadN X62 37 d9_36 rfl rfl rfl ?_
      have f63 := q7.keep K1
      have f64 := q8.keep K1 (ninS (Ne.symm q29) nin0)
      have f65 := q9.keep K1 (ninS (Ne.symm q29) nin0)
      have f66 := q10.keep K1 (ninS (Ne.symm (own_neA q21 (ow hw 14 rfl) q10)) nin0)
      have f67 := own_rawS f63 f64 f65 f66 q28
      have f69 := q26.keep K1
      have f68 := q27.keep K1 (ninS (ne_exa f69 f8 (by decide)) nin0)
      have f70 := own_rawS f8 f2 f3 f68 q28
      refine own_strEq X62 40 d9_37 f67 f70 (own_wE hw) (ow hw 14 rfl) hWd.2.1 hWd.2.2 (ow hw 179 rfl) (ow hw 145 rfl) (ow hw 147 rfl) (ow hw 146 rfl) rfl (W := 0) rfl (by decide) (by decide) (by decide) (by decide) rfl ?_
      intro T71 X72
      refine og_ifN X72 43 d9_40 (XT.i0_eq_f (own_eqbS _)) rfl ?_
      refine og_aloadN X72 44 d9_43 rfl rfl rfl ?_
      refine own_retA X72 d9_44 hret rfl rfl (by decide) (by decide) ?_
      exact ⟨rfl, f2, f3, f4, f5⟩
  · -- not
    refine own_ldR X12 19 d9_18 f13 rfl (v := (.ref p0)) (own_jx0 _) (own_jx1 _) ((own_atM hc14).trans (own_atH own_ok0 rfl)) rfl ?_
    refine og_astoreN X12 20 #[.val (.ref a), .val (.ref u), .val (.int (own_hh c0)), .val (.ref p0)] d9_19 rfl rfl rfl ?_
    refine og_aloadN X12 21 d9_20 rfl rfl rfl ?_
    refine og_nullN X12 24 d9_21 rfl ?_
    refine og_aloadN X12 25 d9_24 rfl rfl rfl ?_
    have f74 := q3.keep K1
    have f73 := q5.keep K1 (ninS (ne_exa f74 f8 (by decide)) nin0)
    refine own_get X12 28 d9_25 (host := "") (Or.inl (ow hw 119 rfl)) Via.refl f73 rfl ?_
    intro T75 X76
    refine og_iloadN X76 29 d9_28 rfl rfl ?_
    refine og_icmpN X76 32 d9_29 (XT.ii_ne_f rfl) rfl ?_
    refine og_aloadN X76 33 d9_32 rfl rfl rfl ?_
    have f77 := q4.keep K1 (ninS (ne_exa f74 f8 (by decide)) nin0)
    refine own_get X76 36 d9_33 (host := "") (Or.inl (ow hw 178 rfl)) Via.refl f77 rfl ?_
    intro T78 X79
    refine og_aloadN X79 37 d9_36 rfl rfl rfl ?_
    have f80 := q7.keep K1
    have f81 := q8.keep K1 (ninS (Ne.symm q29) nin0)
    have f82 := q9.keep K1 (ninS (Ne.symm q29) nin0)
    have f83 := q10.keep K1 (ninS (Ne.symm (own_neA q21 (ow hw 14 rfl) q10)) nin0)
    have f84 := own_rawS f80 f81 f82 f83 q28
    have f86 := q26.keep K1
    have f85 := q27.keep K1 (ninS (ne_exa f86 f8 (by decide)) nin0)
    have f87 := own_rawS f8 f2 f3 f85 q28
    refine own_strEq X79 40 d9_37 f84 f87 (own_wE hw) (ow hw 14 rfl) hWd.2.1 hWd.2.2 (ow hw 179 rfl) (ow hw 145 rfl) (ow hw 147 rfl) (ow hw 146 rfl) rfl (W := 0) rfl (by decide) (by decide) (by decide) (by decide) rfl ?_
    intro T88 X89
    refine og_ifN X89 43 d9_40 (XT.i0_eq_f (own_eqbS _)) rfl ?_
    refine og_aloadN X89 44 d9_43 rfl rfl rfl ?_
    refine own_retA X89 d9_44 hret rfl rfl (by decide) (by decide) ?_
    exact ⟨rfl, f2, f3, f4, f5⟩
theorem rg_2f1 (a0 : Array Value) (hw : OHw a0 Z) (hWd : OWorld Z a0) (O0 : Old Z n0 h0) (a : Addr) (bk : Addr) (kb : ClassId) (u : Addr) (t : Addr) (kt : ClassId) (p0 : Addr) (u0 : Addr) (t0 : Addr) (k0 : ClassId) (c0 : List Int32) (p1 : Addr) (u1 : Addr) (t1 : Addr) (k1 : ClassId) (c1 : List Int32) (q0 : Exa Z h0 a "com/example/ratable/ratable/core/PostedById") (q1 : Fld Z h0 a "com/example/ratable/ratable/core/PostedById" "buckets" "[Lcom/example/ratable/ratable/core/Posted;" (.ref bk)) (q2 : Arv Z h0 bk kb (.object "com/example/ratable/ratable/core/Posted") (16 : Int32) (own_bset (own_bset own_V0 c0 p0) c1 p1) .null) (q3 : Exa Z h0 p0 "com/example/ratable/ratable/core/Posted") (q4 : Fld Z h0 p0 "com/example/ratable/ratable/core/Posted" "id" "Ljava/lang/String;" (.ref u0)) (q5 : Fld Z h0 p0 "com/example/ratable/ratable/core/Posted" "hash" "I" (.int (own_hh c0))) (q6 : Fld Z h0 p0 "com/example/ratable/ratable/core/Posted" "chained" "Lcom/example/ratable/ratable/core/Posted;" .null) (q7 : Exa Z h0 u0 "java/lang/String") (q8 : Fld Z h0 u0 "java/lang/String" "coder" "B" (.int 0)) (q9 : Fld Z h0 u0 "java/lang/String" "value" "[B" (.ref t0)) (q10 : Arv Z h0 t0 k0 .byte (Int32.ofNat (c0).length) ((c0).map fun c => Value.int (StrChars.lo8 c)) (.int 0)) (q11 : own_good c0) (q12 : Exa Z h0 p1 "com/example/ratable/ratable/core/Posted") (q13 : Fld Z h0 p1 "com/example/ratable/ratable/core/Posted" "id" "Ljava/lang/String;" (.ref u1)) (q14 : Fld Z h0 p1 "com/example/ratable/ratable/core/Posted" "hash" "I" (.int (own_hh c1))) (q15 : Fld Z h0 p1 "com/example/ratable/ratable/core/Posted" "chained" "Lcom/example/ratable/ratable/core/Posted;" (own_at (own_bset own_V0 c0 p0) c1)) (q16 : Exa Z h0 u1 "java/lang/String") (q17 : Fld Z h0 u1 "java/lang/String" "coder" "B" (.int 0)) (q18 : Fld Z h0 u1 "java/lang/String" "value" "[B" (.ref t1)) (q19 : Arv Z h0 t1 k1 .byte (Int32.ofNat (c1).length) ((c1).map fun c => Value.int (StrChars.lo8 c)) (.int 0)) (q20 : own_good c1) (q21 : Exa Z h0 u "java/lang/String") (q22 : Fld Z h0 u "java/lang/String" "coder" "B" (.int 0)) (q23 : Fld Z h0 u "java/lang/String" "value" "[B" (.ref t)) (q24 : Fld Z h0 u "java/lang/String" "hash" "I" (.int 0)) (q25 : Fld Z h0 u "java/lang/String" "hashIsZero" "Z" (.int 0)) (q26 : Exa Z h0 t "[B") (q27 : Arv Z h0 t kt .byte (Int32.ofNat (c1).length) ((c1).map fun c => Value.int (StrChars.lo8 c)) (.int 0)) (q28 : own_good c1) (q29 : u ≠ u0) (q30 : u ≠ u1) (q31 : ¬ c0 = c1) (g0 : n0 ≤ u ∧ u < h0.size) :
    OMet l Z own_EL n0 yN21 (Jvm.Cond.code yN21 prog_64_method_3_code 4 (some (.object "com/example/ratable/ratable/core/Posted")) :: wc) ({ frames := 5, cells := 0, slots := 0, locals := 71 } : Room) #[(.ref a), (.ref u)] h0 [u] (fun vq hq => vq = some (.ref p1) ∧ Fld Z hq u "java/lang/String" "coder" "B" (.int 0) ∧ Fld Z hq u "java/lang/String" "value" "[B" (.ref t) ∧ Fld Z hq u "java/lang/String" "hash" "I" (.int (own_hc c1)) ∧ Fld Z hq u "java/lang/String" "hashIsZero" "Z" (.int (own_hz c1))) := by
  refine own_enter #[.val (.ref a), .val (.ref u), .unset, .unset] pn_com_example_ratable_ratable_core_PostedById_get__Ljava_lang_String__Lcom_example_ratable_ratable_core_Posted_ (ef_rg_2f1 a bk kb u t kt p0 u0 t0 k0 c0 p1 u1 t1 k1 c1) hWd.1 O0 (allS g0 all0) ?_
  intro p e s m below meth c T0 X0 hnm hret
  refine og_aloadN X0 1 d9_0 rfl rfl rfl ?_
  refine own_stat X0 4 (argsL := [(.ref u)]) (rest := []) d9_1 (rh_pf l Z n0 h0 [] a0 hw hWd X0.old u t kt c1 q21 q22 q23 q24 q25 q26 q27 q28 (own_svb X0 (om 0 rfl))) (ow hw 56 rfl) (ow hw 57 rfl) (ow hw 36 rfl) (ow hw 58 rfl) (by decide) (lenOf pd__28Ljava_2flang_2fString_3b_29I rfl) rfl rfl rfl (W := 0) rfl (by decide) (by decide) (by decide) (by decide) (allS (om 0 rfl) all0) rfl ?_
  intro T1 h1 v1 X1 K1 hQ1
  obtain ⟨rfl, f2, f3, f4, f5⟩ := hQ1
  show OGo _ _ _ _ T1 (mkF m 4 #[.val (.ref a), .val (.ref u), .unset, .unset] [(.int (own_hh c1))])
  refine og_istoreN X1 5 #[.val (.ref a), .val (.ref u), .val (.int (own_hh c1)), .unset] d9_4 rfl rfl ?_
  refine og_aloadN X1 6 d9_5 rfl rfl rfl ?_
  have f7 := q0.keep K1
  have f8 := q21.keep K1
  have f6 := q1.keep K1 (ninS (ne_exa f7 f8 (by decide)) nin0)
  refine own_get X1 9 d9_6 (host := "") (Or.inl (ow hw 42 rfl)) Via.refl f6 rfl ?_
  intro T9 X10
  refine og_iloadN X10 10 d9_9 rfl rfl ?_
  refine og_aloadN X10 11 d9_10 rfl rfl rfl ?_
  refine own_get X10 14 d9_11 (host := "") (Or.inl (ow hw 42 rfl)) Via.refl f6 rfl ?_
  intro T11 X12
  have f13 := q2.keep K1 (ninS (Ne.symm (own_neA q21 (ow hw 14 rfl) q2)) nin0)
  refine own_len X12 15 d9_14 f13 rfl ?_
  refine og_iconst X12 16 (1 : Int32) d9_15 rfl rfl ?_
  refine og_isub X12 17 d9_16 rfl ?_
  show OGo _ _ _ _ T11 (mkF m 17 #[.val (.ref a), .val (.ref u), .val (.int (own_hh c1)), .unset] [(.int 15), (.int (own_hh c1)), (.ref bk)])
  refine og_iand X12 18 d9_17 rfl ?_
  refine own_ldR X12 19 d9_18 f13 rfl (v := (.ref p1)) (own_jx0 _) (own_jx1 _) (own_atH (own_okP own_ok0 _ _) rfl) rfl ?_
  refine og_astoreN X12 20 #[.val (.ref a), .val (.ref u), .val (.int (own_hh c1)), .val (.ref p1)] d9_19 rfl rfl rfl ?_
  refine og_aloadN X12 21 d9_20 rfl rfl rfl ?_
  refine og_nullN X12 24 d9_21 rfl ?_
  refine og_aloadN X12 25 d9_24 rfl rfl rfl ?_
  have f15 := q12.keep K1
  have f14 := q14.keep K1 (ninS (ne_exa f15 f8 (by decide)) nin0)
  refine own_get X12 28 d9_25 (host := "") (Or.inl (ow hw 119 rfl)) Via.refl f14 rfl ?_
  intro T16 X17
  refine og_iloadN X17 29 d9_28 rfl rfl ?_
  refine og_icmpN X17 32 d9_29 (XT.ii_ne_f rfl) rfl ?_
  refine og_aloadN X17 33 d9_32 rfl rfl rfl ?_
  have f18 := q13.keep K1 (ninS (ne_exa f15 f8 (by decide)) nin0)
  refine own_get X17 36 d9_33 (host := "") (Or.inl (ow hw 178 rfl)) Via.refl f18 rfl ?_
  intro T19 X20
  refine og_aloadN X20 37 d9_36 rfl rfl rfl ?_
  have f21 := q16.keep K1
  have f22 := q17.keep K1 (ninS (Ne.symm q30) nin0)
  have f23 := q18.keep K1 (ninS (Ne.symm q30) nin0)
  have f24 := q19.keep K1 (ninS (Ne.symm (own_neA q21 (ow hw 14 rfl) q19)) nin0)
  have f25 := own_rawS f21 f22 f23 f24 q28
  have f27 := q26.keep K1
  have f26 := q27.keep K1 (ninS (ne_exa f27 f8 (by decide)) nin0)
  have f28 := own_rawS f8 f2 f3 f26 q28
  refine own_strEq X20 40 d9_37 f25 f28 (own_wE hw) (ow hw 14 rfl) hWd.2.1 hWd.2.2 (ow hw 179 rfl) (ow hw 145 rfl) (ow hw 147 rfl) (ow hw 146 rfl) rfl (W := 0) rfl (by decide) (by decide) (by decide) (by decide) rfl ?_
  intro T29 X30
  refine og_ifN X30 43 d9_40 (XT.i0_eq_f (own_eqbS _)) rfl ?_
  refine og_aloadN X30 44 d9_43 rfl rfl rfl ?_
  refine own_retA X30 d9_44 hret rfl rfl (by decide) (by decide) ?_
  exact ⟨rfl, f2, f3, f4, f5⟩
theorem rg_2n (a0 : Array Value) (hw : OHw a0 Z) (hWd : OWorld Z a0) (O0 : Old Z n0 h0) (a : Addr) (bk : Addr) (kb : ClassId) (u : Addr) (t : Addr) (kt : ClassId) (cs : List Int32) (p0 : Addr) (u0 : Addr) (t0 : Addr) (k0 : ClassId) (c0 : List Int32) (p1 : Addr) (u1 : Addr) (t1 : Addr) (k1 : ClassId) (c1 : List Int32) (q0 : Exa Z h0 a "com/example/ratable/ratable/core/PostedById") (q1 : Fld Z h0 a "com/example/ratable/ratable/core/PostedById" "buckets" "[Lcom/example/ratable/ratable/core/Posted;" (.ref bk)) (q2 : Arv Z h0 bk kb (.object "com/example/ratable/ratable/core/Posted") (16 : Int32) (own_bset (own_bset own_V0 c0 p0) c1 p1) .null) (q3 : Exa Z h0 p0 "com/example/ratable/ratable/core/Posted") (q4 : Fld Z h0 p0 "com/example/ratable/ratable/core/Posted" "id" "Ljava/lang/String;" (.ref u0)) (q5 : Fld Z h0 p0 "com/example/ratable/ratable/core/Posted" "hash" "I" (.int (own_hh c0))) (q6 : Fld Z h0 p0 "com/example/ratable/ratable/core/Posted" "chained" "Lcom/example/ratable/ratable/core/Posted;" .null) (q7 : Exa Z h0 u0 "java/lang/String") (q8 : Fld Z h0 u0 "java/lang/String" "coder" "B" (.int 0)) (q9 : Fld Z h0 u0 "java/lang/String" "value" "[B" (.ref t0)) (q10 : Arv Z h0 t0 k0 .byte (Int32.ofNat (c0).length) ((c0).map fun c => Value.int (StrChars.lo8 c)) (.int 0)) (q11 : own_good c0) (q12 : Exa Z h0 p1 "com/example/ratable/ratable/core/Posted") (q13 : Fld Z h0 p1 "com/example/ratable/ratable/core/Posted" "id" "Ljava/lang/String;" (.ref u1)) (q14 : Fld Z h0 p1 "com/example/ratable/ratable/core/Posted" "hash" "I" (.int (own_hh c1))) (q15 : Fld Z h0 p1 "com/example/ratable/ratable/core/Posted" "chained" "Lcom/example/ratable/ratable/core/Posted;" (own_at (own_bset own_V0 c0 p0) c1)) (q16 : Exa Z h0 u1 "java/lang/String") (q17 : Fld Z h0 u1 "java/lang/String" "coder" "B" (.int 0)) (q18 : Fld Z h0 u1 "java/lang/String" "value" "[B" (.ref t1)) (q19 : Arv Z h0 t1 k1 .byte (Int32.ofNat (c1).length) ((c1).map fun c => Value.int (StrChars.lo8 c)) (.int 0)) (q20 : own_good c1) (q21 : Exa Z h0 u "java/lang/String") (q22 : Fld Z h0 u "java/lang/String" "coder" "B" (.int 0)) (q23 : Fld Z h0 u "java/lang/String" "value" "[B" (.ref t)) (q24 : Fld Z h0 u "java/lang/String" "hash" "I" (.int 0)) (q25 : Fld Z h0 u "java/lang/String" "hashIsZero" "Z" (.int 0)) (q26 : Exa Z h0 t "[B") (q27 : Arv Z h0 t kt .byte (Int32.ofNat (cs).length) ((cs).map fun c => Value.int (StrChars.lo8 c)) (.int 0)) (q28 : own_good cs) (q29 : u ≠ u0) (q30 : u ≠ u1) (q31 : ¬ c0 = cs) (q32 : ¬ c1 = cs) (g0 : n0 ≤ u ∧ u < h0.size) :
    OMet l Z own_EL n0 yN21 (Jvm.Cond.code yN21 prog_64_method_3_code 4 (some (.object "com/example/ratable/ratable/core/Posted")) :: wc) ({ frames := 5, cells := 0, slots := 0, locals := 71 } : Room) #[(.ref a), (.ref u)] h0 [u] (fun vq hq => vq = some .null ∧ Fld Z hq u "java/lang/String" "coder" "B" (.int 0) ∧ Fld Z hq u "java/lang/String" "value" "[B" (.ref t) ∧ Fld Z hq u "java/lang/String" "hash" "I" (.int (own_hc cs)) ∧ Fld Z hq u "java/lang/String" "hashIsZero" "Z" (.int (own_hz cs))) := by
  refine own_enter #[.val (.ref a), .val (.ref u), .unset, .unset] pn_com_example_ratable_ratable_core_PostedById_get__Ljava_lang_String__Lcom_example_ratable_ratable_core_Posted_ (ef_rg_2n a bk kb u t kt cs p0 u0 t0 k0 c0 p1 u1 t1 k1 c1) hWd.1 O0 (allS g0 all0) ?_
  intro p e s m below meth c T0 X0 hnm hret
  refine og_aloadN X0 1 d9_0 rfl rfl rfl ?_
  refine own_stat X0 4 (argsL := [(.ref u)]) (rest := []) d9_1 (rh_pf l Z n0 h0 [] a0 hw hWd X0.old u t kt cs q21 q22 q23 q24 q25 q26 q27 q28 (own_svb X0 (om 0 rfl))) (ow hw 56 rfl) (ow hw 57 rfl) (ow hw 36 rfl) (ow hw 58 rfl) (by decide) (lenOf pd__28Ljava_2flang_2fString_3b_29I rfl) rfl rfl rfl (W := 0) rfl (by decide) (by decide) (by decide) (by decide) (allS (om 0 rfl) all0) rfl ?_
  intro T1 h1 v1 X1 K1 hQ1
  obtain ⟨rfl, f2, f3, f4, f5⟩ := hQ1
  show OGo _ _ _ _ T1 (mkF m 4 #[.val (.ref a), .val (.ref u), .unset, .unset] [(.int (own_hh cs))])
  refine og_istoreN X1 5 #[.val (.ref a), .val (.ref u), .val (.int (own_hh cs)), .unset] d9_4 rfl rfl ?_
  refine og_aloadN X1 6 d9_5 rfl rfl rfl ?_
  have f7 := q0.keep K1
  have f8 := q21.keep K1
  have f6 := q1.keep K1 (ninS (ne_exa f7 f8 (by decide)) nin0)
  refine own_get X1 9 d9_6 (host := "") (Or.inl (ow hw 42 rfl)) Via.refl f6 rfl ?_
  intro T9 X10
  refine og_iloadN X10 10 d9_9 rfl rfl ?_
  refine og_aloadN X10 11 d9_10 rfl rfl rfl ?_
  refine own_get X10 14 d9_11 (host := "") (Or.inl (ow hw 42 rfl)) Via.refl f6 rfl ?_
  intro T11 X12
  have f13 := q2.keep K1 (ninS (Ne.symm (own_neA q21 (ow hw 14 rfl) q2)) nin0)
  refine own_len X12 15 d9_14 f13 rfl ?_
  refine og_iconst X12 16 (1 : Int32) d9_15 rfl rfl ?_
  refine og_isub X12 17 d9_16 rfl ?_
  show OGo _ _ _ _ T11 (mkF m 17 #[.val (.ref a), .val (.ref u), .val (.int (own_hh cs)), .unset] [(.int 15), (.int (own_hh cs)), (.ref bk)])
  refine og_iand X12 18 d9_17 rfl ?_
  by_cases hc14 : own_ji cs = own_ji c1
  · -- own_ji cs = own_ji c1
    refine own_ldR X12 19 d9_18 f13 rfl (v := (.ref p1)) (own_jx0 _) (own_jx1 _) (own_atH (own_okP own_ok0 _ _) hc14) rfl ?_
    refine og_astoreN X12 20 #[.val (.ref a), .val (.ref u), .val (.int (own_hh cs)), .val (.ref p1)] d9_19 rfl rfl rfl ?_
    refine og_aloadN X12 21 d9_20 rfl rfl rfl ?_
    refine og_nullN X12 24 d9_21 rfl ?_
    refine og_aloadN X12 25 d9_24 rfl rfl rfl ?_
    have f16 := q12.keep K1
    have f15 := q14.keep K1 (ninS (ne_exa f16 f8 (by decide)) nin0)
    refine own_get X12 28 d9_25 (host := "") (Or.inl (ow hw 119 rfl)) Via.refl f15 rfl ?_
    intro T17 X18
    refine og_iloadN X18 29 d9_28 rfl rfl ?_
    by_cases hc19 : (own_hh c1) = (own_hh cs)
    · -- (own_hh c1) = (own_hh cs)
      refine og_icmpN X18 32 d9_29 (XT.ii_ne_f hc19) rfl ?_
      refine og_aloadN X18 33 d9_32 rfl rfl rfl ?_
      have f20 := q13.keep K1 (ninS (ne_exa f16 f8 (by decide)) nin0)
      refine own_get X18 36 d9_33 (host := "") (Or.inl (ow hw 178 rfl)) Via.refl f20 rfl ?_
      intro T21 X22
      refine og_aloadN X22 37 d9_36 rfl rfl rfl ?_
      have f23 := q16.keep K1
      have f24 := q17.keep K1 (ninS (Ne.symm q30) nin0)
      have f25 := q18.keep K1 (ninS (Ne.symm q30) nin0)
      have f26 := q19.keep K1 (ninS (Ne.symm (own_neA q21 (ow hw 14 rfl) q19)) nin0)
      have f27 := own_rawS f23 f24 f25 f26 q20
      have f29 := q26.keep K1
      have f28 := q27.keep K1 (ninS (ne_exa f29 f8 (by decide)) nin0)
      have f30 := own_rawS f8 f2 f3 f28 q28
      refine own_strEq X22 40 d9_37 f27 f30 (own_wE hw) (ow hw 14 rfl) hWd.2.1 hWd.2.2 (ow hw 179 rfl) (ow hw 145 rfl) (ow hw 147 rfl) (ow hw 146 rfl) rfl (W := 0) rfl (by decide) (by decide) (by decide) (by decide) rfl ?_
      intro T31 X32
      refine og_ifY X32 45 d9_40 (XT.i0_eq_t (own_eqb0.mpr q32)) (by decide) (by decide) ?_
      refine og_aloadN X32 46 d9_45 rfl rfl rfl ?_
      have f33 := q15.keep K1 (ninS (ne_exa f16 f8 (by decide)) nin0)
      by_cases hc34 : own_ji c1 = own_ji c0
      · -- own_ji c1 = own_ji c0
        have f35 : Fld Z h1 p1 "com/example/ratable/ratable/core/Posted" "chained" "Lcom/example/ratable/ratable/core/Posted;" (.ref p0) := (by have q := f33; rwa [own_atH (b := p0) own_ok0 hc34] at q)
        refine own_get X32 49 d9_46 (host := "") (Or.inl (ow hw 120 rfl)) Via.refl f35 rfl ?_
        intro T36 X37
        refine og_astoreN X37 50 #[.val (.ref a), .val (.ref u), .val (.int (own_hh cs)), .val (.ref p0)] d9_49 rfl rfl rfl ?_
        refine og_goto X37 20 d9_50 (by decide) (by decide) ?_
        refine og_aloadN X37 21 d9_20 rfl rfl rfl ?_
        refine og_nullN X37 24 d9_21 rfl ?_
        refine og_aloadN X37 25 d9_24 rfl rfl rfl ?_
        have f39 := q3.keep K1
        have f38 := q5.keep K1 (ninS (ne_exa f39 f8 (by decide)) nin0)
        refine own_get X37 28 d9_25 (host := "") (Or.inl (ow hw 119 rfl)) Via.refl f38 rfl ?_
        intro T40 X41
        refine og_iloadN X41 29 d9_28 rfl rfl ?_
        by_cases hc42 : (own_hh c0) = (own_hh cs)
        · -- (own_hh c0) = (own_hh cs)
          refine og_icmpN X41 32 d9_29 (XT.ii_ne_f hc42) rfl ?_
          refine og_aloadN X41 33 d9_32 rfl rfl rfl ?_
          have f43 := q4.keep K1 (ninS (ne_exa f39 f8 (by decide)) nin0)
          refine own_get X41 36 d9_33 (host := "") (Or.inl (ow hw 178 rfl)) Via.refl f43 rfl ?_
          intro T44 X45
          refine og_aloadN X45 37 d9_36 rfl rfl rfl ?_
          have f46 := q7.keep K1
          have f47 := q8.keep K1 (ninS (Ne.symm q29) nin0)
          have f48 := q9.keep K1 (ninS (Ne.symm q29) nin0)
          have f49 := q10.keep K1 (ninS (Ne.symm (own_neA q21 (ow hw 14 rfl) q10)) nin0)
          have f50 := own_rawS f46 f47 f48 f49 q11
          have f51 := own_rawS f8 f2 f3 f28 q28
          refine own_strEq X45 40 d9_37 f50 f51 (own_wE hw) (ow hw 14 rfl) hWd.2.1 hWd.2.2 (ow hw 179 rfl) (ow hw 145 rfl) (ow hw 147 rfl) (ow hw 146 rfl) rfl (W := 0) rfl (by decide) (by decide) (by decide) (by decide) rfl ?_
          intro T52 X53
          refine og_ifY X53 45 d9_40 (XT.i0_eq_t (own_eqb0.mpr q31)) (by decide) (by decide) ?_
          refine og_aloadN X53 46 d9_45 rfl rfl rfl ?_
          have f54 := q6.keep K1 (ninS (ne_exa f39 f8 (by decide)) nin0)
          refine own_get X53 49 d9_46 (host := "") (Or.inl (ow hw 120 rfl)) Via.refl f54 rfl ?_
          intro T55 X56
          refine og_astoreN X56 50 #[.val (.ref a), .val (.ref u), .val (.int (own_hh cs)), .val .null] d9_49 rfl rfl rfl ?_
          refine og_goto X56 20 d9_50 (by decide) (by decide) ?_
          refine og_aloadN X56 21 d9_20 rfl rfl rfl ?_
          refine og_nullY X56 53 d9_21 (by decide) (by decide) ?_
          refine og_aconstNull X56 54 d9_53 rfl ?_
          refine own_retA X56 d9_54 hret rfl rfl (by decide) (by decide) ?_
          exact ⟨rfl, f2, f3, f4, f5⟩
        · -- not
          refine og_icmpY X41 45 d9_29 (XT.ii_ne_t hc42) (by decide) (by decide) ?_
          refine og_aloadN X41 46 d9_45 rfl rfl rfl ?_
          have f57 := q6.keep K1 (ninS (ne_exa f39 f8 (by decide)) nin0)
          refine own_get X41 49 d9_46 (host := "") (Or.inl (ow hw 120 rfl)) Via.refl f57 rfl ?_
          intro T58 X59
          refine og_astoreN X59 50 #[.val (.ref a), .val (.ref u), .val (.int (own_hh cs)), .val .null] d9_49 rfl rfl rfl ?_
          refine og_goto X59 20 d9_50 (by decide) (by decide) ?_
          refine og_aloadN X59 21 d9_20 rfl rfl rfl ?_
          refine og_nullY X59 53 d9_21 (by decide) (by decide) ?_
          refine og_aconstNull X59 54 d9_53 rfl ?_
          refine own_retA X59 d9_54 hret rfl rfl (by decide) (by decide) ?_
          exact ⟨rfl, f2, f3, f4, f5⟩
      · -- not
        have f60 : Fld Z h1 p1 "com/example/ratable/ratable/core/Posted" "chained" "Lcom/example/ratable/ratable/core/Posted;" .null := (by have q := f33; rwa [own_atM (b := p0) (vs := own_V0) hc34, own_at0] at q)
        refine own_get X32 49 d9_46 (host := "") (Or.inl (ow hw 120 rfl)) Via.refl f60 rfl ?_
        intro T61 X62
        refine og_astoreN X62 50 #[.val (.ref a), .val (.ref u), .val (.int (own_hh cs)), .val .null] d9_49 rfl rfl rfl ?_
        refine og_goto X62 20 d9_50 (by decide) (by decide) ?_
        refine og_aloadN X62 21 d9_20 rfl rfl rfl ?_
        refine og_nullY X62 53 d9_21 (by decide) (by decide) ?_
        refine og_aconstNull X62 54 d9_53 rfl ?_
        refine own_retA X62 d9_54 hret rfl rfl (by decide) (by decide) ?_
        exact ⟨rfl, f2, f3, f4, f5⟩
    · -- not
      refine og_icmpY X18 45 d9_29 (XT.ii_ne_t hc19) (by decide) (by decide) ?_
      refine og_aloadN X18 46 d9_45 rfl rfl rfl ?_
      have f63 := q15.keep K1 (ninS (ne_exa f16 f8 (by decide)) nin0)
      by_cases hc64 : own_ji c1 = own_ji c0
      · -- own_ji c1 = own_ji c0
        have f65 : Fld Z h1 p1 "com/example/ratable/ratable/core/Posted" "chained" "Lcom/example/ratable/ratable/core/Posted;" (.ref p0) := (by have q := f63; rwa [own_atH (b := p0) own_ok0 hc64] at q)
        refine own_get X18 49 d9_46 (host := "") (Or.inl (ow hw 120 rfl)) Via.refl f65 rfl ?_
        intro T66 X67
        refine og_astoreN X67 50 #[.val (.ref a), .val (.ref u), .val (.int (own_hh cs)), .val (.ref p0)] d9_49 rfl rfl rfl ?_
        refine og_goto X67 20 d9_50 (by decide) (by decide) ?_
        refine og_aloadN X67 21 d9_20 rfl rfl rfl ?_
        refine og_nullN X67 24 d9_21 rfl ?_
        refine og_aloadN X67 25 d9_24 rfl rfl rfl ?_
        have f69 := q3.keep K1
        have f68 := q5.keep K1 (ninS (ne_exa f69 f8 (by decide)) nin0)
        refine own_get X67 28 d9_25 (host := "") (Or.inl (ow hw 119 rfl)) Via.refl f68 rfl ?_
        intro T70 X71
        refine og_iloadN X71 29 d9_28 rfl rfl ?_
        by_cases hc72 : (own_hh c0) = (own_hh cs)
        · -- (own_hh c0) = (own_hh cs)
          refine og_icmpN X71 32 d9_29 (XT.ii_ne_f hc72) rfl ?_
          refine og_aloadN X71 33 d9_32 rfl rfl rfl ?_
          have f73 := q4.keep K1 (ninS (ne_exa f69 f8 (by decide)) nin0)
          refine own_get X71 36 d9_33 (host := "") (Or.inl (ow hw 178 rfl)) Via.refl f73 rfl ?_
          intro T74 X75
          refine og_aloadN X75 37 d9_36 rfl rfl rfl ?_
          have f76 := q7.keep K1
          have f77 := q8.keep K1 (ninS (Ne.symm q29) nin0)
          have f78 := q9.keep K1 (ninS (Ne.symm q29) nin0)
          have f79 := q10.keep K1 (ninS (Ne.symm (own_neA q21 (ow hw 14 rfl) q10)) nin0)
          have f80 := own_rawS f76 f77 f78 f79 q11
          have f82 := q26.keep K1
          have f81 := q27.keep K1 (ninS (ne_exa f82 f8 (by decide)) nin0)
          have f83 := own_rawS f8 f2 f3 f81 q28
          refine own_strEq X75 40 d9_37 f80 f83 (own_wE hw) (ow hw 14 rfl) hWd.2.1 hWd.2.2 (ow hw 179 rfl) (ow hw 145 rfl) (ow hw 147 rfl) (ow hw 146 rfl) rfl (W := 0) rfl (by decide) (by decide) (by decide) (by decide) rfl ?_
          intro T84 X85
          refine og_ifY X85 45 d9_40 (XT.i0_eq_t (own_eqb0.mpr q31)) (by decide) (by decide) ?_
          refine og_aloadN X85 46 d9_45 rfl rfl rfl ?_
          have f86 := q6.keep K1 (ninS (ne_exa f69 f8 (by decide)) nin0)
          refine own_get X85 49 d9_46 (host := "") (Or.inl (ow hw 120 rfl)) Via.refl f86 rfl ?_
          intro T87 X88
          refine og_astoreN X88 50 #[.val (.ref a), .val (.ref u), .val (.int (own_hh cs)), .val .null] d9_49 rfl rfl rfl ?_
          refine og_goto X88 20 d9_50 (by decide) (by decide) ?_
          refine og_aloadN X88 21 d9_20 rfl rfl rfl ?_
          refine og_nullY X88 53 d9_21 (by decide) (by decide) ?_
          refine og_aconstNull X88 54 d9_53 rfl ?_
          refine own_retA X88 d9_54 hret rfl rfl (by decide) (by decide) ?_
          exact ⟨rfl, f2, f3, f4, f5⟩
        · -- not
          refine og_icmpY X71 45 d9_29 (XT.ii_ne_t hc72) (by decide) (by decide) ?_
          refine og_aloadN X71 46 d9_45 rfl rfl rfl ?_
          have f89 := q6.keep K1 (ninS (ne_exa f69 f8 (by decide)) nin0)
          refine own_get X71 49 d9_46 (host := "") (Or.inl (ow hw 120 rfl)) Via.refl f89 rfl ?_
          intro T90 X91
          refine og_astoreN X91 50 #[.val (.ref a), .val (.ref u), .val (.int (own_hh cs)), .val .null] d9_49 rfl rfl rfl ?_
          refine og_goto X91 20 d9_50 (by decide) (by decide) ?_
          refine og_aloadN X91 21 d9_20 rfl rfl rfl ?_
          refine og_nullY X91 53 d9_21 (by decide) (by decide) ?_
          refine og_aconstNull X91 54 d9_53 rfl ?_
          refine own_retA X91 d9_54 hret rfl rfl (by decide) (by decide) ?_
          exact ⟨rfl, f2, f3, f4, f5⟩
      · -- not
        have f92 : Fld Z h1 p1 "com/example/ratable/ratable/core/Posted" "chained" "Lcom/example/ratable/ratable/core/Posted;" .null := (by have q := f63; rwa [own_atM (b := p0) (vs := own_V0) hc64, own_at0] at q)
        refine own_get X18 49 d9_46 (host := "") (Or.inl (ow hw 120 rfl)) Via.refl f92 rfl ?_
        intro T93 X94
        refine og_astoreN X94 50 #[.val (.ref a), .val (.ref u), .val (.int (own_hh cs)), .val .null] d9_49 rfl rfl rfl ?_
        refine og_goto X94 20 d9_50 (by decide) (by decide) ?_
        refine og_aloadN X94 21 d9_20 rfl rfl rfl ?_
        refine og_nullY X94 53 d9_21 (by decide) (by decide) ?_
        refine og_aconstNull X94 54 d9_53 rfl ?_
        refine own_retA X94 d9_54 hret rfl rfl (by decide) (by decide) ?_
        exact ⟨rfl, f2, f3, f4, f5⟩
  · -- not
    by_cases hc95 : own_ji cs = own_ji c0
    · -- own_ji cs = own_ji c0
      refine own_ldR X12 19 d9_18 f13 rfl (v := (.ref p0)) (own_jx0 _) (own_jx1 _) ((own_atM hc14).trans (own_atH own_ok0 hc95)) rfl ?_
      refine og_astoreN X12 20 #[.val (.ref a), .val (.ref u), .val (.int (own_hh cs)), .val (.ref p0)] d9_19 rfl rfl rfl ?_
      refine og_aloadN X12 21 d9_20 rfl rfl rfl ?_
      refine og_nullN X12 24 d9_21 rfl ?_
      refine og_aloadN X12 25 d9_24 rfl rfl rfl ?_
      have f97 := q3.keep K1
      have f96 := q5.keep K1 (ninS (ne_exa f97 f8 (by decide)) nin0)
      refine own_get X12 28 d9_25 (host := "") (Or.inl (ow hw 119 rfl)) Via.refl f96 rfl ?_
      intro T98 X99
      refine og_iloadN X99 29 d9_28 rfl rfl ?_
      by_cases hc100 : (own_hh c0) = (own_hh cs)
      · -- (own_hh c0) = (own_hh cs)
        refine og_icmpN X99 32 d9_29 (XT.ii_ne_f hc100) rfl ?_
        refine og_aloadN X99 33 d9_32 rfl rfl rfl ?_
        have f101 := q4.keep K1 (ninS (ne_exa f97 f8 (by decide)) nin0)
        refine own_get X99 36 d9_33 (host := "") (Or.inl (ow hw 178 rfl)) Via.refl f101 rfl ?_
        intro T102 X103
        refine og_aloadN X103 37 d9_36 rfl rfl rfl ?_
        have f104 := q7.keep K1
        have f105 := q8.keep K1 (ninS (Ne.symm q29) nin0)
        have f106 := q9.keep K1 (ninS (Ne.symm q29) nin0)
        have f107 := q10.keep K1 (ninS (Ne.symm (own_neA q21 (ow hw 14 rfl) q10)) nin0)
        have f108 := own_rawS f104 f105 f106 f107 q11
        have f110 := q26.keep K1
        have f109 := q27.keep K1 (ninS (ne_exa f110 f8 (by decide)) nin0)
        have f111 := own_rawS f8 f2 f3 f109 q28
        refine own_strEq X103 40 d9_37 f108 f111 (own_wE hw) (ow hw 14 rfl) hWd.2.1 hWd.2.2 (ow hw 179 rfl) (ow hw 145 rfl) (ow hw 147 rfl) (ow hw 146 rfl) rfl (W := 0) rfl (by decide) (by decide) (by decide) (by decide) rfl ?_
        intro T112 X113
        refine og_ifY X113 45 d9_40 (XT.i0_eq_t (own_eqb0.mpr q31)) (by decide) (by decide) ?_
        refine og_aloadN X113 46 d9_45 rfl rfl rfl ?_
        have f114 := q6.keep K1 (ninS (ne_exa f97 f8 (by decide)) nin0)
        refine own_get X113 49 d9_46 (host := "") (Or.inl (ow hw 120 rfl)) Via.refl f114 rfl ?_
        intro T115 X116
        refine og_astoreN X116 50 #[.val (.ref a), .val (.ref u), .val (.int (own_hh cs)), .val .null] d9_49 rfl rfl rfl ?_
        refine og_goto X116 20 d9_50 (by decide) (by decide) ?_
        refine og_aloadN X116 21 d9_20 rfl rfl rfl ?_
        refine og_nullY X116 53 d9_21 (by decide) (by decide) ?_
        refine og_aconstNull X116 54 d9_53 rfl ?_
        refine own_retA X116 d9_54 hret rfl rfl (by decide) (by decide) ?_
        exact ⟨rfl, f2, f3, f4, f5⟩
      · -- not
        refine og_icmpY X99 45 d9_29 (XT.ii_ne_t hc100) (by decide) (by decide) ?_
        refine og_aloadN X99 46 d9_45 rfl rfl rfl ?_
        have f117 := q6.keep K1 (ninS (ne_exa f97 f8 (by decide)) nin0)
        refine own_get X99 49 d9_46 (host := "") (Or.inl (ow hw 120 rfl)) Via.refl f117 rfl ?_
        intro T118 X119
        refine og_astoreN X119 50 #[.val (.ref a), .val (.ref u), .val (.int (own_hh cs)), .val .null] d9_49 rfl rfl rfl ?_
        refine og_goto X119 20 d9_50 (by decide) (by decide) ?_
        refine og_aloadN X119 21 d9_20 rfl rfl rfl ?_
        refine og_nullY X119 53 d9_21 (by decide) (by decide) ?_
        refine og_aconstNull X119 54 d9_53 rfl ?_
        refine own_retA X119 d9_54 hret rfl rfl (by decide) (by decide) ?_
        exact ⟨rfl, f2, f3, f4, f5⟩
    · -- not
      refine own_ldR X12 19 d9_18 f13 rfl (v := .null) (own_jx0 _) (own_jx1 _) ((own_atM hc14).trans ((own_atM hc95).trans (own_at0 cs))) rfl ?_
      refine og_astoreN X12 20 #[.val (.ref a), .val (.ref u), .val (.int (own_hh cs)), .val .null] d9_19 rfl rfl rfl ?_
      refine og_aloadN X12 21 d9_20 rfl rfl rfl ?_
      refine og_nullY X12 53 d9_21 (by decide) (by decide) ?_
      refine og_aconstNull X12 54 d9_53 rfl ?_
      refine own_retA X12 d9_54 hret rfl rfl (by decide) (by decide) ?_
      exact ⟨rfl, f2, f3, f4, f5⟩
theorem ro_0n (a0 : Array Value) (hw : OHw a0 Z) (hWd : OWorld Z a0) (O0 : Old Z n0 h0) (a : Addr) (bk : Addr) (io : Addr) (kb : ClassId) (ki : ClassId) (u : Addr) (t : Addr) (kt : ClassId) (cs : List Int32) (q0 : Exa Z h0 a "com/example/ratable/ratable/core/PostedById") (q1 : Fld Z h0 a "com/example/ratable/ratable/core/PostedById" "buckets" "[Lcom/example/ratable/ratable/core/Posted;" (.ref bk)) (q2 : Fld Z h0 a "com/example/ratable/ratable/core/PostedById" "inOrder" "[Lcom/example/ratable/ratable/core/Posted;" (.ref io)) (q3 : Fld Z h0 a "com/example/ratable/ratable/core/PostedById" "size" "I" (.int 0)) (q4 : Arv Z h0 bk kb (.object "com/example/ratable/ratable/core/Posted") (16 : Int32) own_V0 .null) (q5 : Arv Z h0 io ki (.object "com/example/ratable/ratable/core/Posted") (16 : Int32) [.null, .null, .null, .null, .null, .null, .null, .null, .null, .null, .null, .null, .null, .null, .null, .null] .null) (q6 : Ovr Z kb "com/example/ratable/ratable/core/Posted") (q7 : Ovr Z ki "com/example/ratable/ratable/core/Posted") (q8 : bk ≠ io) (q9 : Exa Z h0 u "java/lang/String") (q10 : Fld Z h0 u "java/lang/String" "coder" "B" (.int 0)) (q11 : Fld Z h0 u "java/lang/String" "value" "[B" (.ref t)) (q12 : Fld Z h0 u "java/lang/String" "hash" "I" (.int 0)) (q13 : Fld Z h0 u "java/lang/String" "hashIsZero" "Z" (.int 0)) (q14 : Exa Z h0 t "[B") (q15 : Arv Z h0 t kt .byte (Int32.ofNat (cs).length) ((cs).map fun c => Value.int (StrChars.lo8 c)) (.int 0)) (q16 : own_good cs) (g0 : n0 ≤ a ∧ a < h0.size) (g1 : n0 ≤ io ∧ io < h0.size) (g2 : n0 ≤ bk ∧ bk < h0.size) (g3 : n0 ≤ u ∧ u < h0.size) :
    OMet l Z own_EL n0 yN22 (Jvm.Cond.code yN22 prog_64_method_4_code 3 (some (.object "com/example/ratable/ratable/core/Posted")) :: wc) ({ frames := 6, cells := 9, slots := 36, locals := 86 } : Room) #[(.ref a), (.ref u)] h0 [a, io, bk, u] (fun vq hq => ∃ (r : Addr), vq = some (.ref r) ∧ h0.size ≤ r ∧ Fld Z hq a "com/example/ratable/ratable/core/PostedById" "buckets" "[Lcom/example/ratable/ratable/core/Posted;" (.ref bk) ∧ Fld Z hq a "com/example/ratable/ratable/core/PostedById" "inOrder" "[Lcom/example/ratable/ratable/core/Posted;" (.ref io) ∧ Fld Z hq a "com/example/ratable/ratable/core/PostedById" "size" "I" (.int 1) ∧ Arv Z hq bk kb (.object "com/example/ratable/ratable/core/Posted") (16 : Int32) (own_bset own_V0 cs r) .null ∧ Arv Z hq io ki (.object "com/example/ratable/ratable/core/Posted") (16 : Int32) [(.ref r), .null, .null, .null, .null, .null, .null, .null, .null, .null, .null, .null, .null, .null, .null, .null] .null ∧ Exa Z hq r "com/example/ratable/ratable/core/Posted" ∧ Fld Z hq r "com/example/ratable/ratable/core/Posted" "id" "Ljava/lang/String;" (.ref u) ∧ Fld Z hq r "com/example/ratable/ratable/core/Posted" "hash" "I" (.int (own_hh cs)) ∧ Fld Z hq r "com/example/ratable/ratable/core/Posted" "chained" "Lcom/example/ratable/ratable/core/Posted;" .null ∧ Fld Z hq u "java/lang/String" "coder" "B" (.int 0) ∧ Fld Z hq u "java/lang/String" "value" "[B" (.ref t) ∧ Fld Z hq u "java/lang/String" "hash" "I" (.int (own_hc cs)) ∧ Fld Z hq u "java/lang/String" "hashIsZero" "Z" (.int (own_hz cs))) := by
  refine own_enter #[.val (.ref a), .val (.ref u), .unset] pn_com_example_ratable_ratable_core_PostedById_open__Ljava_lang_String__Lcom_example_ratable_ratable_core_Posted_ (ef_ro_0n a bk io kb ki u t kt cs) hWd.1 O0 (allS g0 (allS g1 (allS g2 (allS g3 all0)))) ?_
  intro p e s m below meth c T0 X0 hnm hret
  refine og_aloadN X0 1 d8_0 rfl rfl rfl ?_
  refine og_aloadN X0 2 d8_1 rfl rfl rfl ?_
  refine own_virt X0 5 (a := a) (argsL := [(.ref u)]) (rest := []) d8_2 q0 (fun _ hZ => notFace_of_selects (args := #[]) (mvT hZ (ow hw 54 rfl))) (rg_0n l Z n0 h0 [] a0 hw hWd X0.old a bk kb u t kt cs q0 q1 q4 q9 q10 q11 q12 q13 q14 q15 q16 (own_svb X0 (om 3 rfl))) (ow hw 51 rfl) (ow hw 52 rfl) (ow hw 54 rfl) (ow hw 53 rfl) (ow hw 36 rfl) (ow hw 55 rfl) (by decide) (lenOf pd__28Ljava_2flang_2fString_3b_29Lcom_2fexample_2fratable_2fratable_2fcore_2fPosted_3b rfl) rfl rfl rfl (W := 0) rfl (by decide) (by decide) (by decide) (by decide) (allS (om 3 rfl) all0) rfl ?_
  intro T1 h1 v1 X1 K1 hQ1
  obtain ⟨rfl, f2, f3, f4, f5⟩ := hQ1
  show OGo _ _ _ _ T1 (mkF m 5 #[.val (.ref a), .val (.ref u), .unset] [.null])
  refine og_astoreN X1 6 #[.val (.ref a), .val (.ref u), .val .null] d8_5 rfl rfl rfl ?_
  refine og_aloadN X1 7 d8_6 rfl rfl rfl ?_
  refine og_nonnullN X1 10 d8_7 rfl ?_
  refine own_new X1 13 d8_10 (ow hw 41 rfl) (ow hw 76 rfl) (ow hw 77 rfl) (by decide) (by decide) rfl ?_
  intro T6 h6 b6 X6 K6 G6 U6 E6 D6
  have f7 : Fld Z h6 b6 "com/example/ratable/ratable/core/Posted" "balances" "Lcom/example/ratable/ratable/core/Posted$Sums;" .null := D6 (Or.inr (ow hw 101 rfl)) (ty := (.object "com/example/ratable/ratable/core/Posted$Sums")) (by decide)
  have f8 : Fld Z h6 b6 "com/example/ratable/ratable/core/Posted" "invoices" "Lcom/example/ratable/ratable/core/Posted$Sums;" .null := D6 (Or.inr (ow hw 103 rfl)) (ty := (.object "com/example/ratable/ratable/core/Posted$Sums")) (by decide)
  have f9 : Fld Z h6 b6 "com/example/ratable/ratable/core/Posted" "id" "Ljava/lang/String;" .null := D6 (Or.inr (ow hw 105 rfl)) (ty := (.object "java/lang/String")) (by decide)
  have f10 : Fld Z h6 b6 "com/example/ratable/ratable/core/Posted" "hash" "I" (.int 0) := D6 (Or.inr (ow hw 108 rfl)) (ty := .int) (by decide)
  have f11 : Fld Z h6 b6 "com/example/ratable/ratable/core/Posted" "chained" "Lcom/example/ratable/ratable/core/Posted;" .null := D6 (Or.inl (ow hw 121 rfl)) (ty := (.object "com/example/ratable/ratable/core/Posted")) (by decide)
  refine og_dup X6 14 d8_13 rfl rfl ?_
  refine og_aloadN X6 15 d8_14 rfl rfl rfl ?_
  have f12 := q9.keep K1
  have f13 := f12.keep K6
  have f14 := f2.keep K6 nin0
  have f15 := f3.keep K6 nin0
  have f16 := f4.keep K6 nin0
  have f17 := f5.keep K6 nin0
  have f18 := q14.keep K1
  have f19 := f18.keep K6
  have f20 := q15.keep K1 (ninS (ne_exa f19 f13 (by decide)) nin0)
  have f21 := f20.keep K6 nin0
  refine own_spec X6 18 (a := b6) (argsL := [(.ref u)]) (rest := [(.ref b6)]) d8_15 rfl (rm14 l Z n0 h6 [] a0 hw hWd X6.old b6 u t kt cs E6 f7 f8 f9 f10 f11 f13 f14 f15 f16 f17 f19 f21 q16 (own_svb X6 (om 0 rfl))) (ow hw 78 rfl) (ow hw 79 rfl) (ow hw 77 rfl) (ow hw 80 rfl) (by decide) (lenOf pd__28Ljava_2flang_2fString_3b_29V rfl) rfl rfl rfl (W := 1) rfl (by decide) (by decide) (by decide) (by decide) (allS (om 0 rfl) all0) rfl ?_
  intro T22 h22 v22 X22 K22 hQ22
  obtain ⟨rfl, f23, f24, f25⟩ := hQ22
  show OGo _ _ _ _ T22 (mkF m 18 #[.val (.ref a), .val (.ref u), .val .null] [(.ref b6)])
  refine og_astoreN X22 19 #[.val (.ref a), .val (.ref u), .val (.ref b6)] d8_18 rfl rfl rfl ?_
  refine og_aloadN X22 20 d8_19 rfl rfl rfl ?_
  refine og_aloadN X22 21 d8_20 rfl rfl rfl ?_
  have f26 := q0.keep K1
  have f27 := f26.keep K6
  have f28 := f27.keep K22
  have f30 := f13.keep K22
  have f29 := q1.keep K1 (ninS (ne_exa f28 f30 (by decide)) nin0)
  have f31 := f29.keep K6 nin0
  have f32 := f31.keep K22 (ninS (Nat.ne_of_lt (Nat.lt_of_lt_of_le (Nat.lt_of_lt_of_le q0.lt K1.1) G6)) nin0)
  have f33 := q2.keep K1 (ninS (ne_exa f28 f30 (by decide)) nin0)
  have f34 := f33.keep K6 nin0
  have f35 := f34.keep K22 (ninS (Nat.ne_of_lt (Nat.lt_of_lt_of_le (Nat.lt_of_lt_of_le q0.lt K1.1) G6)) nin0)
  have f36 := q3.keep K1 (ninS (ne_exa f28 f30 (by decide)) nin0)
  have f37 := f36.keep K6 nin0
  have f38 := f37.keep K22 (ninS (Nat.ne_of_lt (Nat.lt_of_lt_of_le (Nat.lt_of_lt_of_le q0.lt K1.1) G6)) nin0)
  have f39 := q4.keep K1 (ninS (Ne.symm (own_neA q9 (ow hw 14 rfl) q4)) nin0)
  have f40 := f39.keep K6 nin0
  have f41 := f40.keep K22 (ninS (Nat.ne_of_lt (Nat.lt_of_lt_of_le (Nat.lt_of_lt_of_le q4.lt K1.1) G6)) nin0)
  have f42 := q5.keep K1 (ninS (Ne.symm (own_neA q9 (ow hw 14 rfl) q5)) nin0)
  have f43 := f42.keep K6 nin0
  have f44 := f43.keep K22 (ninS (Nat.ne_of_lt (Nat.lt_of_lt_of_le (Nat.lt_of_lt_of_le q5.lt K1.1) G6)) nin0)
  have f45 := E6.keep K22
  refine own_priv X22 24 (a := a) (argsL := [(.ref b6)]) (rest := []) d8_21 f28 (rp_put0 l Z n0 h22 [] a0 hw hWd X22.old a b6 bk io u kb ki own_V0 cs f28 f32 f35 f38 f41 f44 q6 q7 q8 f45 f23 f24 f25 own_ok0 (own_svb X22 (om 1 rfl)) (own_svb X22 (om 2 rfl)) (own_svb X22 (om 0 rfl)) (own_svb X22 (om 3 rfl))) (ow hw 109 rfl) (ow hw 110 rfl) (own_selfsel2 (ow hw 49 rfl) rfl (ow hw 110 rfl) (ow hw 111 rfl) (by decide)) (ow hw 111 rfl) (ow hw 36 rfl) (ow hw 112 rfl) (by decide) (lenOf pd__28Lcom_2fexample_2fratable_2fratable_2fcore_2fPosted_3b_29V rfl) rfl rfl rfl (W := 0) rfl (by decide) (by decide) (by decide) (by decide) (allS (om 1 rfl) (allS (om 2 rfl) (allS (om 0 rfl) (allS (om 3 rfl) all0)))) rfl ?_
  intro T46 h46 v46 X46 K46 hQ46
  obtain ⟨rfl, f47, f48, f49, f50, f51, f52, f53, f54⟩ := hQ46
  show OGo _ _ _ _ T46 (mkF m 24 #[.val (.ref a), .val (.ref u), .val (.ref b6)] [])
  refine og_aloadN X46 25 d8_24 rfl rfl rfl ?_
  have f55 := f45.keep K46
  have f56 := f14.keep K22 (ninS (Nat.ne_of_lt (Nat.lt_of_lt_of_le (Nat.lt_of_lt_of_le q9.lt K1.1) G6)) nin0)
  have f58 := f30.keep K46
  have f59 := f28.keep K46
  have f57 := f56.keep K46 (ninS (ne_exa f58 f59 (by decide)) (ninS (own_neA (f30.keep K46) (ow hw 14 rfl) f51) (ninS (Nat.ne_of_lt (Nat.lt_of_lt_of_le (Nat.lt_of_lt_of_le q9.lt K1.1) G6)) (ninS (own_neA (f30.keep K46) (ow hw 14 rfl) f50) nin0))))
  have f60 := f15.keep K22 (ninS (Nat.ne_of_lt (Nat.lt_of_lt_of_le (Nat.lt_of_lt_of_le q9.lt K1.1) G6)) nin0)
  have f61 := f60.keep K46 (ninS (ne_exa f58 f59 (by decide)) (ninS (own_neA f58 (ow hw 14 rfl) f51) (ninS (Nat.ne_of_lt (Nat.lt_of_lt_of_le (Nat.lt_of_lt_of_le q9.lt K1.1) G6)) (ninS (own_neA f58 (ow hw 14 rfl) f50) nin0))))
  have f62 := f16.keep K22 (ninS (Nat.ne_of_lt (Nat.lt_of_lt_of_le (Nat.lt_of_lt_of_le q9.lt K1.1) G6)) nin0)
  have f63 := f62.keep K46 (ninS (ne_exa f58 f59 (by decide)) (ninS (own_neA f58 (ow hw 14 rfl) f51) (ninS (Nat.ne_of_lt (Nat.lt_of_lt_of_le (Nat.lt_of_lt_of_le q9.lt K1.1) G6)) (ninS (own_neA f58 (ow hw 14 rfl) f50) nin0))))
  have f64 := f17.keep K22 (ninS (Nat.ne_of_lt (Nat.lt_of_lt_of_le (Nat.lt_of_lt_of_le q9.lt K1.1) G6)) nin0)
  have f65 := f64.keep K46 (ninS (ne_exa f58 f59 (by decide)) (ninS (own_neA f58 (ow hw 14 rfl) f51) (ninS (Nat.ne_of_lt (Nat.lt_of_lt_of_le (Nat.lt_of_lt_of_le q9.lt K1.1) G6)) (ninS (own_neA f58 (ow hw 14 rfl) f50) nin0))))
  refine own_retA X46 d8_25 hret rfl rfl (by decide) (by decide) ?_
  exact ⟨_, rfl, (Nat.le_trans K1.1 G6), f47, f48, f49, f50, f51, f55, f52, f53, (by have q := f54; rwa [own_at0] at q), f57, f61, f63, f65⟩
theorem ro_1f0 (a0 : Array Value) (hw : OHw a0 Z) (hWd : OWorld Z a0) (O0 : Old Z n0 h0) (a : Addr) (bk : Addr) (io : Addr) (kb : ClassId) (ki : ClassId) (u : Addr) (t : Addr) (kt : ClassId) (p0 : Addr) (u0 : Addr) (t0 : Addr) (k0 : ClassId) (c0 : List Int32) (q0 : Exa Z h0 a "com/example/ratable/ratable/core/PostedById") (q1 : Fld Z h0 a "com/example/ratable/ratable/core/PostedById" "buckets" "[Lcom/example/ratable/ratable/core/Posted;" (.ref bk)) (q2 : Fld Z h0 a "com/example/ratable/ratable/core/PostedById" "inOrder" "[Lcom/example/ratable/ratable/core/Posted;" (.ref io)) (q3 : Fld Z h0 a "com/example/ratable/ratable/core/PostedById" "size" "I" (.int 1)) (q4 : Arv Z h0 bk kb (.object "com/example/ratable/ratable/core/Posted") (16 : Int32) (own_bset own_V0 c0 p0) .null) (q5 : Arv Z h0 io ki (.object "com/example/ratable/ratable/core/Posted") (16 : Int32) [(.ref p0), .null, .null, .null, .null, .null, .null, .null, .null, .null, .null, .null, .null, .null, .null, .null] .null) (q6 : Ovr Z kb "com/example/ratable/ratable/core/Posted") (q7 : Ovr Z ki "com/example/ratable/ratable/core/Posted") (q8 : bk ≠ io) (q9 : Exa Z h0 p0 "com/example/ratable/ratable/core/Posted") (q10 : Fld Z h0 p0 "com/example/ratable/ratable/core/Posted" "id" "Ljava/lang/String;" (.ref u0)) (q11 : Fld Z h0 p0 "com/example/ratable/ratable/core/Posted" "hash" "I" (.int (own_hh c0))) (q12 : Fld Z h0 p0 "com/example/ratable/ratable/core/Posted" "chained" "Lcom/example/ratable/ratable/core/Posted;" .null) (q13 : Exa Z h0 u0 "java/lang/String") (q14 : Fld Z h0 u0 "java/lang/String" "coder" "B" (.int 0)) (q15 : Fld Z h0 u0 "java/lang/String" "value" "[B" (.ref t0)) (q16 : Arv Z h0 t0 k0 .byte (Int32.ofNat (c0).length) ((c0).map fun c => Value.int (StrChars.lo8 c)) (.int 0)) (q17 : own_good c0) (q18 : Exa Z h0 u "java/lang/String") (q19 : Fld Z h0 u "java/lang/String" "coder" "B" (.int 0)) (q20 : Fld Z h0 u "java/lang/String" "value" "[B" (.ref t)) (q21 : Fld Z h0 u "java/lang/String" "hash" "I" (.int 0)) (q22 : Fld Z h0 u "java/lang/String" "hashIsZero" "Z" (.int 0)) (q23 : Exa Z h0 t "[B") (q24 : Arv Z h0 t kt .byte (Int32.ofNat (c0).length) ((c0).map fun c => Value.int (StrChars.lo8 c)) (.int 0)) (q25 : own_good c0) (q26 : u ≠ u0) (g0 : n0 ≤ u ∧ u < h0.size) :
    OMet l Z own_EL n0 yN22 (Jvm.Cond.code yN22 prog_64_method_4_code 3 (some (.object "com/example/ratable/ratable/core/Posted")) :: wc) ({ frames := 6, cells := 0, slots := 0, locals := 86 } : Room) #[(.ref a), (.ref u)] h0 [u] (fun vq hq => vq = some (.ref p0) ∧ Fld Z hq u "java/lang/String" "coder" "B" (.int 0) ∧ Fld Z hq u "java/lang/String" "value" "[B" (.ref t) ∧ Fld Z hq u "java/lang/String" "hash" "I" (.int (own_hc c0)) ∧ Fld Z hq u "java/lang/String" "hashIsZero" "Z" (.int (own_hz c0))) := by
  refine own_enter #[.val (.ref a), .val (.ref u), .unset] pn_com_example_ratable_ratable_core_PostedById_open__Ljava_lang_String__Lcom_example_ratable_ratable_core_Posted_ (ef_ro_1f0 a bk io kb ki u t kt p0 u0 t0 k0 c0) hWd.1 O0 (allS g0 all0) ?_
  intro p e s m below meth c T0 X0 hnm hret
  refine og_aloadN X0 1 d8_0 rfl rfl rfl ?_
  refine og_aloadN X0 2 d8_1 rfl rfl rfl ?_
  refine own_virt X0 5 (a := a) (argsL := [(.ref u)]) (rest := []) d8_2 q0 (fun _ hZ => notFace_of_selects (args := #[]) (mvT hZ (ow hw 54 rfl))) (rg_1f0 l Z n0 h0 [] a0 hw hWd X0.old a bk kb u t kt p0 u0 t0 k0 c0 q0 q1 q4 q9 q10 q11 q12 q13 q14 q15 q16 q25 q18 q19 q20 q21 q22 q23 q24 q25 q26 (own_svb X0 (om 0 rfl))) (ow hw 51 rfl) (ow hw 52 rfl) (ow hw 54 rfl) (ow hw 53 rfl) (ow hw 36 rfl) (ow hw 55 rfl) (by decide) (lenOf pd__28Ljava_2flang_2fString_3b_29Lcom_2fexample_2fratable_2fratable_2fcore_2fPosted_3b rfl) rfl rfl rfl (W := 0) rfl (by decide) (by decide) (by decide) (by decide) (allS (om 0 rfl) all0) rfl ?_
  intro T1 h1 v1 X1 K1 hQ1
  obtain ⟨rfl, f2, f3, f4, f5⟩ := hQ1
  show OGo _ _ _ _ T1 (mkF m 5 #[.val (.ref a), .val (.ref u), .unset] [(.ref p0)])
  refine og_astoreN X1 6 #[.val (.ref a), .val (.ref u), .val (.ref p0)] d8_5 rfl rfl rfl ?_
  refine og_aloadN X1 7 d8_6 rfl rfl rfl ?_
  refine og_nonnullY X1 24 d8_7 (by decide) (by decide) ?_
  refine og_aloadN X1 25 d8_24 rfl rfl rfl ?_
  refine own_retA X1 d8_25 hret rfl rfl (by decide) (by decide) ?_
  exact ⟨rfl, f2, f3, f4, f5⟩
theorem ro_1n (a0 : Array Value) (hw : OHw a0 Z) (hWd : OWorld Z a0) (O0 : Old Z n0 h0) (a : Addr) (bk : Addr) (io : Addr) (kb : ClassId) (ki : ClassId) (u : Addr) (t : Addr) (kt : ClassId) (cs : List Int32) (p0 : Addr) (u0 : Addr) (t0 : Addr) (k0 : ClassId) (c0 : List Int32) (q0 : Exa Z h0 a "com/example/ratable/ratable/core/PostedById") (q1 : Fld Z h0 a "com/example/ratable/ratable/core/PostedById" "buckets" "[Lcom/example/ratable/ratable/core/Posted;" (.ref bk)) (q2 : Fld Z h0 a "com/example/ratable/ratable/core/PostedById" "inOrder" "[Lcom/example/ratable/ratable/core/Posted;" (.ref io)) (q3 : Fld Z h0 a "com/example/ratable/ratable/core/PostedById" "size" "I" (.int 1)) (q4 : Arv Z h0 bk kb (.object "com/example/ratable/ratable/core/Posted") (16 : Int32) (own_bset own_V0 c0 p0) .null) (q5 : Arv Z h0 io ki (.object "com/example/ratable/ratable/core/Posted") (16 : Int32) [(.ref p0), .null, .null, .null, .null, .null, .null, .null, .null, .null, .null, .null, .null, .null, .null, .null] .null) (q6 : Ovr Z kb "com/example/ratable/ratable/core/Posted") (q7 : Ovr Z ki "com/example/ratable/ratable/core/Posted") (q8 : bk ≠ io) (q9 : Exa Z h0 p0 "com/example/ratable/ratable/core/Posted") (q10 : Fld Z h0 p0 "com/example/ratable/ratable/core/Posted" "id" "Ljava/lang/String;" (.ref u0)) (q11 : Fld Z h0 p0 "com/example/ratable/ratable/core/Posted" "hash" "I" (.int (own_hh c0))) (q12 : Fld Z h0 p0 "com/example/ratable/ratable/core/Posted" "chained" "Lcom/example/ratable/ratable/core/Posted;" .null) (q13 : Exa Z h0 u0 "java/lang/String") (q14 : Fld Z h0 u0 "java/lang/String" "coder" "B" (.int 0)) (q15 : Fld Z h0 u0 "java/lang/String" "value" "[B" (.ref t0)) (q16 : Arv Z h0 t0 k0 .byte (Int32.ofNat (c0).length) ((c0).map fun c => Value.int (StrChars.lo8 c)) (.int 0)) (q17 : own_good c0) (q18 : Exa Z h0 u "java/lang/String") (q19 : Fld Z h0 u "java/lang/String" "coder" "B" (.int 0)) (q20 : Fld Z h0 u "java/lang/String" "value" "[B" (.ref t)) (q21 : Fld Z h0 u "java/lang/String" "hash" "I" (.int 0)) (q22 : Fld Z h0 u "java/lang/String" "hashIsZero" "Z" (.int 0)) (q23 : Exa Z h0 t "[B") (q24 : Arv Z h0 t kt .byte (Int32.ofNat (cs).length) ((cs).map fun c => Value.int (StrChars.lo8 c)) (.int 0)) (q25 : own_good cs) (q26 : u ≠ u0) (q27 : ¬ c0 = cs) (g0 : n0 ≤ a ∧ a < h0.size) (g1 : n0 ≤ io ∧ io < h0.size) (g2 : n0 ≤ bk ∧ bk < h0.size) (g3 : n0 ≤ u ∧ u < h0.size) :
    OMet l Z own_EL n0 yN22 (Jvm.Cond.code yN22 prog_64_method_4_code 3 (some (.object "com/example/ratable/ratable/core/Posted")) :: wc) ({ frames := 6, cells := 9, slots := 36, locals := 86 } : Room) #[(.ref a), (.ref u)] h0 [a, io, bk, u] (fun vq hq => ∃ (r : Addr), vq = some (.ref r) ∧ h0.size ≤ r ∧ Fld Z hq a "com/example/ratable/ratable/core/PostedById" "buckets" "[Lcom/example/ratable/ratable/core/Posted;" (.ref bk) ∧ Fld Z hq a "com/example/ratable/ratable/core/PostedById" "inOrder" "[Lcom/example/ratable/ratable/core/Posted;" (.ref io) ∧ Fld Z hq a "com/example/ratable/ratable/core/PostedById" "size" "I" (.int 2) ∧ Arv Z hq bk kb (.object "com/example/ratable/ratable/core/Posted") (16 : Int32) (own_bset (own_bset own_V0 c0 p0) cs r) .null ∧ Arv Z hq io ki (.object "com/example/ratable/ratable/core/Posted") (16 : Int32) [(.ref p0), (.ref r), .null, .null, .null, .null, .null, .null, .null, .null, .null, .null, .null, .null, .null, .null] .null ∧ Exa Z hq r "com/example/ratable/ratable/core/Posted" ∧ Fld Z hq r "com/example/ratable/ratable/core/Posted" "id" "Ljava/lang/String;" (.ref u) ∧ Fld Z hq r "com/example/ratable/ratable/core/Posted" "hash" "I" (.int (own_hh cs)) ∧ Fld Z hq r "com/example/ratable/ratable/core/Posted" "chained" "Lcom/example/ratable/ratable/core/Posted;" (own_at (own_bset own_V0 c0 p0) cs) ∧ Fld Z hq u "java/lang/String" "coder" "B" (.int 0) ∧ Fld Z hq u "java/lang/String" "value" "[B" (.ref t) ∧ Fld Z hq u "java/lang/String" "hash" "I" (.int (own_hc cs)) ∧ Fld Z hq u "java/lang/String" "hashIsZero" "Z" (.int (own_hz cs))) := by
  refine own_enter #[.val (.ref a), .val (.ref u), .unset] pn_com_example_ratable_ratable_core_PostedById_open__Ljava_lang_String__Lcom_example_ratable_ratable_core_Posted_ (ef_ro_1n a bk io kb ki u t kt cs p0 u0 t0 k0 c0) hWd.1 O0 (allS g0 (allS g1 (allS g2 (allS g3 all0)))) ?_
  intro p e s m below meth c T0 X0 hnm hret
  refine og_aloadN X0 1 d8_0 rfl rfl rfl ?_
  refine og_aloadN X0 2 d8_1 rfl rfl rfl ?_
  refine own_virt X0 5 (a := a) (argsL := [(.ref u)]) (rest := []) d8_2 q0 (fun _ hZ => notFace_of_selects (args := #[]) (mvT hZ (ow hw 54 rfl))) (rg_1n l Z n0 h0 [] a0 hw hWd X0.old a bk kb u t kt cs p0 u0 t0 k0 c0 q0 q1 q4 q9 q10 q11 q12 q13 q14 q15 q16 q17 q18 q19 q20 q21 q22 q23 q24 q25 q26 q27 (own_svb X0 (om 3 rfl))) (ow hw 51 rfl) (ow hw 52 rfl) (ow hw 54 rfl) (ow hw 53 rfl) (ow hw 36 rfl) (ow hw 55 rfl) (by decide) (lenOf pd__28Ljava_2flang_2fString_3b_29Lcom_2fexample_2fratable_2fratable_2fcore_2fPosted_3b rfl) rfl rfl rfl (W := 0) rfl (by decide) (by decide) (by decide) (by decide) (allS (om 3 rfl) all0) rfl ?_
  intro T1 h1 v1 X1 K1 hQ1
  obtain ⟨rfl, f2, f3, f4, f5⟩ := hQ1
  show OGo _ _ _ _ T1 (mkF m 5 #[.val (.ref a), .val (.ref u), .unset] [.null])
  refine og_astoreN X1 6 #[.val (.ref a), .val (.ref u), .val .null] d8_5 rfl rfl rfl ?_
  refine og_aloadN X1 7 d8_6 rfl rfl rfl ?_
  refine og_nonnullN X1 10 d8_7 rfl ?_
  refine own_new X1 13 d8_10 (ow hw 41 rfl) (ow hw 76 rfl) (ow hw 77 rfl) (by decide) (by decide) rfl ?_
  intro T6 h6 b6 X6 K6 G6 U6 E6 D6
  have f7 : Fld Z h6 b6 "com/example/ratable/ratable/core/Posted" "balances" "Lcom/example/ratable/ratable/core/Posted$Sums;" .null := D6 (Or.inr (ow hw 101 rfl)) (ty := (.object "com/example/ratable/ratable/core/Posted$Sums")) (by decide)
  have f8 : Fld Z h6 b6 "com/example/ratable/ratable/core/Posted" "invoices" "Lcom/example/ratable/ratable/core/Posted$Sums;" .null := D6 (Or.inr (ow hw 103 rfl)) (ty := (.object "com/example/ratable/ratable/core/Posted$Sums")) (by decide)
  have f9 : Fld Z h6 b6 "com/example/ratable/ratable/core/Posted" "id" "Ljava/lang/String;" .null := D6 (Or.inr (ow hw 105 rfl)) (ty := (.object "java/lang/String")) (by decide)
  have f10 : Fld Z h6 b6 "com/example/ratable/ratable/core/Posted" "hash" "I" (.int 0) := D6 (Or.inr (ow hw 108 rfl)) (ty := .int) (by decide)
  have f11 : Fld Z h6 b6 "com/example/ratable/ratable/core/Posted" "chained" "Lcom/example/ratable/ratable/core/Posted;" .null := D6 (Or.inl (ow hw 121 rfl)) (ty := (.object "com/example/ratable/ratable/core/Posted")) (by decide)
  refine og_dup X6 14 d8_13 rfl rfl ?_
  refine og_aloadN X6 15 d8_14 rfl rfl rfl ?_
  have f12 := q18.keep K1
  have f13 := f12.keep K6
  have f14 := f2.keep K6 nin0
  have f15 := f3.keep K6 nin0
  have f16 := f4.keep K6 nin0
  have f17 := f5.keep K6 nin0
  have f18 := q23.keep K1
  have f19 := f18.keep K6
  have f20 := q24.keep K1 (ninS (ne_exa f19 f13 (by decide)) nin0)
  have f21 := f20.keep K6 nin0
  refine own_spec X6 18 (a := b6) (argsL := [(.ref u)]) (rest := [(.ref b6)]) d8_15 rfl (rm14 l Z n0 h6 [] a0 hw hWd X6.old b6 u t kt cs E6 f7 f8 f9 f10 f11 f13 f14 f15 f16 f17 f19 f21 q25 (own_svb X6 (om 0 rfl))) (ow hw 78 rfl) (ow hw 79 rfl) (ow hw 77 rfl) (ow hw 80 rfl) (by decide) (lenOf pd__28Ljava_2flang_2fString_3b_29V rfl) rfl rfl rfl (W := 1) rfl (by decide) (by decide) (by decide) (by decide) (allS (om 0 rfl) all0) rfl ?_
  intro T22 h22 v22 X22 K22 hQ22
  obtain ⟨rfl, f23, f24, f25⟩ := hQ22
  show OGo _ _ _ _ T22 (mkF m 18 #[.val (.ref a), .val (.ref u), .val .null] [(.ref b6)])
  refine og_astoreN X22 19 #[.val (.ref a), .val (.ref u), .val (.ref b6)] d8_18 rfl rfl rfl ?_
  refine og_aloadN X22 20 d8_19 rfl rfl rfl ?_
  refine og_aloadN X22 21 d8_20 rfl rfl rfl ?_
  have f26 := q0.keep K1
  have f27 := f26.keep K6
  have f28 := f27.keep K22
  have f30 := f13.keep K22
  have f29 := q1.keep K1 (ninS (ne_exa f28 f30 (by decide)) nin0)
  have f31 := f29.keep K6 nin0
  have f32 := f31.keep K22 (ninS (Nat.ne_of_lt (Nat.lt_of_lt_of_le (Nat.lt_of_lt_of_le q0.lt K1.1) G6)) nin0)
  have f33 := q2.keep K1 (ninS (ne_exa f28 f30 (by decide)) nin0)
  have f34 := f33.keep K6 nin0
  have f35 := f34.keep K22 (ninS (Nat.ne_of_lt (Nat.lt_of_lt_of_le (Nat.lt_of_lt_of_le q0.lt K1.1) G6)) nin0)
  have f36 := q3.keep K1 (ninS (ne_exa f28 f30 (by decide)) nin0)
  have f37 := f36.keep K6 nin0
  have f38 := f37.keep K22 (ninS (Nat.ne_of_lt (Nat.lt_of_lt_of_le (Nat.lt_of_lt_of_le q0.lt K1.1) G6)) nin0)
  have f39 := q4.keep K1 (ninS (Ne.symm (own_neA q18 (ow hw 14 rfl) q4)) nin0)
  have f40 := f39.keep K6 nin0
  have f41 := f40.keep K22 (ninS (Nat.ne_of_lt (Nat.lt_of_lt_of_le (Nat.lt_of_lt_of_le q4.lt K1.1) G6)) nin0)
  have f42 := q5.keep K1 (ninS (Ne.symm (own_neA q18 (ow hw 14 rfl) q5)) nin0)
  have f43 := f42.keep K6 nin0
  have f44 := f43.keep K22 (ninS (Nat.ne_of_lt (Nat.lt_of_lt_of_le (Nat.lt_of_lt_of_le q5.lt K1.1) G6)) nin0)
  have f45 := E6.keep K22
  refine own_priv X22 24 (a := a) (argsL := [(.ref b6)]) (rest := []) d8_21 f28 (rp_put1 l Z n0 h22 [] a0 hw hWd X22.old a b6 bk io u kb ki (own_bset own_V0 c0 p0) cs p0 f28 f32 f35 f38 f41 f44 q6 q7 q8 f45 f23 f24 f25 (own_okP own_ok0 _ _) (own_svb X22 (om 1 rfl)) (own_svb X22 (om 2 rfl)) (own_svb X22 (om 0 rfl)) (own_svb X22 (om 3 rfl))) (ow hw 109 rfl) (ow hw 110 rfl) (own_selfsel2 (ow hw 49 rfl) rfl (ow hw 110 rfl) (ow hw 111 rfl) (by decide)) (ow hw 111 rfl) (ow hw 36 rfl) (ow hw 112 rfl) (by decide) (lenOf pd__28Lcom_2fexample_2fratable_2fratable_2fcore_2fPosted_3b_29V rfl) rfl rfl rfl (W := 0) rfl (by decide) (by decide) (by decide) (by decide) (allS (om 1 rfl) (allS (om 2 rfl) (allS (om 0 rfl) (allS (om 3 rfl) all0)))) rfl ?_
  intro T46 h46 v46 X46 K46 hQ46
  obtain ⟨rfl, f47, f48, f49, f50, f51, f52, f53, f54⟩ := hQ46
  show OGo _ _ _ _ T46 (mkF m 24 #[.val (.ref a), .val (.ref u), .val (.ref b6)] [])
  refine og_aloadN X46 25 d8_24 rfl rfl rfl ?_
  have f55 := f45.keep K46
  have f56 := f14.keep K22 (ninS (Nat.ne_of_lt (Nat.lt_of_lt_of_le (Nat.lt_of_lt_of_le q18.lt K1.1) G6)) nin0)
  have f58 := f30.keep K46
  have f59 := f28.keep K46
  have f57 := f56.keep K46 (ninS (ne_exa f58 f59 (by decide)) (ninS (own_neA (f30.keep K46) (ow hw 14 rfl) f51) (ninS (Nat.ne_of_lt (Nat.lt_of_lt_of_le (Nat.lt_of_lt_of_le q18.lt K1.1) G6)) (ninS (own_neA (f30.keep K46) (ow hw 14 rfl) f50) nin0))))
  have f60 := f15.keep K22 (ninS (Nat.ne_of_lt (Nat.lt_of_lt_of_le (Nat.lt_of_lt_of_le q18.lt K1.1) G6)) nin0)
  have f61 := f60.keep K46 (ninS (ne_exa f58 f59 (by decide)) (ninS (own_neA f58 (ow hw 14 rfl) f51) (ninS (Nat.ne_of_lt (Nat.lt_of_lt_of_le (Nat.lt_of_lt_of_le q18.lt K1.1) G6)) (ninS (own_neA f58 (ow hw 14 rfl) f50) nin0))))
  have f62 := f16.keep K22 (ninS (Nat.ne_of_lt (Nat.lt_of_lt_of_le (Nat.lt_of_lt_of_le q18.lt K1.1) G6)) nin0)
  have f63 := f62.keep K46 (ninS (ne_exa f58 f59 (by decide)) (ninS (own_neA f58 (ow hw 14 rfl) f51) (ninS (Nat.ne_of_lt (Nat.lt_of_lt_of_le (Nat.lt_of_lt_of_le q18.lt K1.1) G6)) (ninS (own_neA f58 (ow hw 14 rfl) f50) nin0))))
  have f64 := f17.keep K22 (ninS (Nat.ne_of_lt (Nat.lt_of_lt_of_le (Nat.lt_of_lt_of_le q18.lt K1.1) G6)) nin0)
  have f65 := f64.keep K46 (ninS (ne_exa f58 f59 (by decide)) (ninS (own_neA f58 (ow hw 14 rfl) f51) (ninS (Nat.ne_of_lt (Nat.lt_of_lt_of_le (Nat.lt_of_lt_of_le q18.lt K1.1) G6)) (ninS (own_neA f58 (ow hw 14 rfl) f50) nin0))))
  refine own_retA X46 d8_25 hret rfl rfl (by decide) (by decide) ?_
  exact ⟨_, rfl, (Nat.le_trans K1.1 G6), f47, f48, f49, f50, f51, f55, f52, f53, f54, f57, f61, f63, f65⟩
theorem ro_2f0 (a0 : Array Value) (hw : OHw a0 Z) (hWd : OWorld Z a0) (O0 : Old Z n0 h0) (a : Addr) (bk : Addr) (io : Addr) (kb : ClassId) (ki : ClassId) (u : Addr) (t : Addr) (kt : ClassId) (p0 : Addr) (u0 : Addr) (t0 : Addr) (k0 : ClassId) (c0 : List Int32) (p1 : Addr) (u1 : Addr) (t1 : Addr) (k1 : ClassId) (c1 : List Int32) (q0 : Exa Z h0 a "com/example/ratable/ratable/core/PostedById") (q1 : Fld Z h0 a "com/example/ratable/ratable/core/PostedById" "buckets" "[Lcom/example/ratable/ratable/core/Posted;" (.ref bk)) (q2 : Fld Z h0 a "com/example/ratable/ratable/core/PostedById" "inOrder" "[Lcom/example/ratable/ratable/core/Posted;" (.ref io)) (q3 : Fld Z h0 a "com/example/ratable/ratable/core/PostedById" "size" "I" (.int 2)) (q4 : Arv Z h0 bk kb (.object "com/example/ratable/ratable/core/Posted") (16 : Int32) (own_bset (own_bset own_V0 c0 p0) c1 p1) .null) (q5 : Arv Z h0 io ki (.object "com/example/ratable/ratable/core/Posted") (16 : Int32) [(.ref p0), (.ref p1), .null, .null, .null, .null, .null, .null, .null, .null, .null, .null, .null, .null, .null, .null] .null) (q6 : Ovr Z kb "com/example/ratable/ratable/core/Posted") (q7 : Ovr Z ki "com/example/ratable/ratable/core/Posted") (q8 : bk ≠ io) (q9 : Exa Z h0 p0 "com/example/ratable/ratable/core/Posted") (q10 : Fld Z h0 p0 "com/example/ratable/ratable/core/Posted" "id" "Ljava/lang/String;" (.ref u0)) (q11 : Fld Z h0 p0 "com/example/ratable/ratable/core/Posted" "hash" "I" (.int (own_hh c0))) (q12 : Fld Z h0 p0 "com/example/ratable/ratable/core/Posted" "chained" "Lcom/example/ratable/ratable/core/Posted;" .null) (q13 : Exa Z h0 u0 "java/lang/String") (q14 : Fld Z h0 u0 "java/lang/String" "coder" "B" (.int 0)) (q15 : Fld Z h0 u0 "java/lang/String" "value" "[B" (.ref t0)) (q16 : Arv Z h0 t0 k0 .byte (Int32.ofNat (c0).length) ((c0).map fun c => Value.int (StrChars.lo8 c)) (.int 0)) (q17 : own_good c0) (q18 : Exa Z h0 p1 "com/example/ratable/ratable/core/Posted") (q19 : Fld Z h0 p1 "com/example/ratable/ratable/core/Posted" "id" "Ljava/lang/String;" (.ref u1)) (q20 : Fld Z h0 p1 "com/example/ratable/ratable/core/Posted" "hash" "I" (.int (own_hh c1))) (q21 : Fld Z h0 p1 "com/example/ratable/ratable/core/Posted" "chained" "Lcom/example/ratable/ratable/core/Posted;" (own_at (own_bset own_V0 c0 p0) c1)) (q22 : Exa Z h0 u1 "java/lang/String") (q23 : Fld Z h0 u1 "java/lang/String" "coder" "B" (.int 0)) (q24 : Fld Z h0 u1 "java/lang/String" "value" "[B" (.ref t1)) (q25 : Arv Z h0 t1 k1 .byte (Int32.ofNat (c1).length) ((c1).map fun c => Value.int (StrChars.lo8 c)) (.int 0)) (q26 : own_good c1) (q27 : Exa Z h0 u "java/lang/String") (q28 : Fld Z h0 u "java/lang/String" "coder" "B" (.int 0)) (q29 : Fld Z h0 u "java/lang/String" "value" "[B" (.ref t)) (q30 : Fld Z h0 u "java/lang/String" "hash" "I" (.int 0)) (q31 : Fld Z h0 u "java/lang/String" "hashIsZero" "Z" (.int 0)) (q32 : Exa Z h0 t "[B") (q33 : Arv Z h0 t kt .byte (Int32.ofNat (c0).length) ((c0).map fun c => Value.int (StrChars.lo8 c)) (.int 0)) (q34 : own_good c0) (q35 : u ≠ u0) (q36 : u ≠ u1) (q37 : ¬ c0 = c1) (g0 : n0 ≤ u ∧ u < h0.size) :
    OMet l Z own_EL n0 yN22 (Jvm.Cond.code yN22 prog_64_method_4_code 3 (some (.object "com/example/ratable/ratable/core/Posted")) :: wc) ({ frames := 6, cells := 0, slots := 0, locals := 86 } : Room) #[(.ref a), (.ref u)] h0 [u] (fun vq hq => vq = some (.ref p0) ∧ Fld Z hq u "java/lang/String" "coder" "B" (.int 0) ∧ Fld Z hq u "java/lang/String" "value" "[B" (.ref t) ∧ Fld Z hq u "java/lang/String" "hash" "I" (.int (own_hc c0)) ∧ Fld Z hq u "java/lang/String" "hashIsZero" "Z" (.int (own_hz c0))) := by
  refine own_enter #[.val (.ref a), .val (.ref u), .unset] pn_com_example_ratable_ratable_core_PostedById_open__Ljava_lang_String__Lcom_example_ratable_ratable_core_Posted_ (ef_ro_2f0 a bk io kb ki u t kt p0 u0 t0 k0 c0 p1 u1 t1 k1 c1) hWd.1 O0 (allS g0 all0) ?_
  intro p e s m below meth c T0 X0 hnm hret
  refine og_aloadN X0 1 d8_0 rfl rfl rfl ?_
  refine og_aloadN X0 2 d8_1 rfl rfl rfl ?_
  refine own_virt X0 5 (a := a) (argsL := [(.ref u)]) (rest := []) d8_2 q0 (fun _ hZ => notFace_of_selects (args := #[]) (mvT hZ (ow hw 54 rfl))) (rg_2f0 l Z n0 h0 [] a0 hw hWd X0.old a bk kb u t kt p0 u0 t0 k0 c0 p1 u1 t1 k1 c1 q0 q1 q4 q9 q10 q11 q12 q13 q14 q15 q16 q34 q18 q19 q20 q21 q22 q23 q24 q25 q26 q27 q28 q29 q30 q31 q32 q33 q34 q35 q36 q37 (own_svb X0 (om 0 rfl))) (ow hw 51 rfl) (ow hw 52 rfl) (ow hw 54 rfl) (ow hw 53 rfl) (ow hw 36 rfl) (ow hw 55 rfl) (by decide) (lenOf pd__28Ljava_2flang_2fString_3b_29Lcom_2fexample_2fratable_2fratable_2fcore_2fPosted_3b rfl) rfl rfl rfl (W := 0) rfl (by decide) (by decide) (by decide) (by decide) (allS (om 0 rfl) all0) rfl ?_
  intro T1 h1 v1 X1 K1 hQ1
  obtain ⟨rfl, f2, f3, f4, f5⟩ := hQ1
  show OGo _ _ _ _ T1 (mkF m 5 #[.val (.ref a), .val (.ref u), .unset] [(.ref p0)])
  refine og_astoreN X1 6 #[.val (.ref a), .val (.ref u), .val (.ref p0)] d8_5 rfl rfl rfl ?_
  refine og_aloadN X1 7 d8_6 rfl rfl rfl ?_
  refine og_nonnullY X1 24 d8_7 (by decide) (by decide) ?_
  refine og_aloadN X1 25 d8_24 rfl rfl rfl ?_
  refine own_retA X1 d8_25 hret rfl rfl (by decide) (by decide) ?_
  exact ⟨rfl, f2, f3, f4, f5⟩
theorem ro_2f1 (a0 : Array Value) (hw : OHw a0 Z) (hWd : OWorld Z a0) (O0 : Old Z n0 h0) (a : Addr) (bk : Addr) (io : Addr) (kb : ClassId) (ki : ClassId) (u : Addr) (t : Addr) (kt : ClassId) (p0 : Addr) (u0 : Addr) (t0 : Addr) (k0 : ClassId) (c0 : List Int32) (p1 : Addr) (u1 : Addr) (t1 : Addr) (k1 : ClassId) (c1 : List Int32) (q0 : Exa Z h0 a "com/example/ratable/ratable/core/PostedById") (q1 : Fld Z h0 a "com/example/ratable/ratable/core/PostedById" "buckets" "[Lcom/example/ratable/ratable/core/Posted;" (.ref bk)) (q2 : Fld Z h0 a "com/example/ratable/ratable/core/PostedById" "inOrder" "[Lcom/example/ratable/ratable/core/Posted;" (.ref io)) (q3 : Fld Z h0 a "com/example/ratable/ratable/core/PostedById" "size" "I" (.int 2)) (q4 : Arv Z h0 bk kb (.object "com/example/ratable/ratable/core/Posted") (16 : Int32) (own_bset (own_bset own_V0 c0 p0) c1 p1) .null) (q5 : Arv Z h0 io ki (.object "com/example/ratable/ratable/core/Posted") (16 : Int32) [(.ref p0), (.ref p1), .null, .null, .null, .null, .null, .null, .null, .null, .null, .null, .null, .null, .null, .null] .null) (q6 : Ovr Z kb "com/example/ratable/ratable/core/Posted") (q7 : Ovr Z ki "com/example/ratable/ratable/core/Posted") (q8 : bk ≠ io) (q9 : Exa Z h0 p0 "com/example/ratable/ratable/core/Posted") (q10 : Fld Z h0 p0 "com/example/ratable/ratable/core/Posted" "id" "Ljava/lang/String;" (.ref u0)) (q11 : Fld Z h0 p0 "com/example/ratable/ratable/core/Posted" "hash" "I" (.int (own_hh c0))) (q12 : Fld Z h0 p0 "com/example/ratable/ratable/core/Posted" "chained" "Lcom/example/ratable/ratable/core/Posted;" .null) (q13 : Exa Z h0 u0 "java/lang/String") (q14 : Fld Z h0 u0 "java/lang/String" "coder" "B" (.int 0)) (q15 : Fld Z h0 u0 "java/lang/String" "value" "[B" (.ref t0)) (q16 : Arv Z h0 t0 k0 .byte (Int32.ofNat (c0).length) ((c0).map fun c => Value.int (StrChars.lo8 c)) (.int 0)) (q17 : own_good c0) (q18 : Exa Z h0 p1 "com/example/ratable/ratable/core/Posted") (q19 : Fld Z h0 p1 "com/example/ratable/ratable/core/Posted" "id" "Ljava/lang/String;" (.ref u1)) (q20 : Fld Z h0 p1 "com/example/ratable/ratable/core/Posted" "hash" "I" (.int (own_hh c1))) (q21 : Fld Z h0 p1 "com/example/ratable/ratable/core/Posted" "chained" "Lcom/example/ratable/ratable/core/Posted;" (own_at (own_bset own_V0 c0 p0) c1)) (q22 : Exa Z h0 u1 "java/lang/String") (q23 : Fld Z h0 u1 "java/lang/String" "coder" "B" (.int 0)) (q24 : Fld Z h0 u1 "java/lang/String" "value" "[B" (.ref t1)) (q25 : Arv Z h0 t1 k1 .byte (Int32.ofNat (c1).length) ((c1).map fun c => Value.int (StrChars.lo8 c)) (.int 0)) (q26 : own_good c1) (q27 : Exa Z h0 u "java/lang/String") (q28 : Fld Z h0 u "java/lang/String" "coder" "B" (.int 0)) (q29 : Fld Z h0 u "java/lang/String" "value" "[B" (.ref t)) (q30 : Fld Z h0 u "java/lang/String" "hash" "I" (.int 0)) (q31 : Fld Z h0 u "java/lang/String" "hashIsZero" "Z" (.int 0)) (q32 : Exa Z h0 t "[B") (q33 : Arv Z h0 t kt .byte (Int32.ofNat (c1).length) ((c1).map fun c => Value.int (StrChars.lo8 c)) (.int 0)) (q34 : own_good c1) (q35 : u ≠ u0) (q36 : u ≠ u1) (q37 : ¬ c0 = c1) (g0 : n0 ≤ u ∧ u < h0.size) :
    OMet l Z own_EL n0 yN22 (Jvm.Cond.code yN22 prog_64_method_4_code 3 (some (.object "com/example/ratable/ratable/core/Posted")) :: wc) ({ frames := 6, cells := 0, slots := 0, locals := 86 } : Room) #[(.ref a), (.ref u)] h0 [u] (fun vq hq => vq = some (.ref p1) ∧ Fld Z hq u "java/lang/String" "coder" "B" (.int 0) ∧ Fld Z hq u "java/lang/String" "value" "[B" (.ref t) ∧ Fld Z hq u "java/lang/String" "hash" "I" (.int (own_hc c1)) ∧ Fld Z hq u "java/lang/String" "hashIsZero" "Z" (.int (own_hz c1))) := by
  refine own_enter #[.val (.ref a), .val (.ref u), .unset] pn_com_example_ratable_ratable_core_PostedById_open__Ljava_lang_String__Lcom_example_ratable_ratable_core_Posted_ (ef_ro_2f1 a bk io kb ki u t kt p0 u0 t0 k0 c0 p1 u1 t1 k1 c1) hWd.1 O0 (allS g0 all0) ?_
  intro p e s m below meth c T0 X0 hnm hret
  refine og_aloadN X0 1 d8_0 rfl rfl rfl ?_
  refine og_aloadN X0 2 d8_1 rfl rfl rfl ?_
  refine own_virt X0 5 (a := a) (argsL := [(.ref u)]) (rest := []) d8_2 q0 (fun _ hZ => notFace_of_selects (args := #[]) (mvT hZ (ow hw 54 rfl))) (rg_2f1 l Z n0 h0 [] a0 hw hWd X0.old a bk kb u t kt p0 u0 t0 k0 c0 p1 u1 t1 k1 c1 q0 q1 q4 q9 q10 q11 q12 q13 q14 q15 q16 q17 q18 q19 q20 q21 q22 q23 q24 q25 q34 q27 q28 q29 q30 q31 q32 q33 q34 q35 q36 q37 (own_svb X0 (om 0 rfl))) (ow hw 51 rfl) (ow hw 52 rfl) (ow hw 54 rfl) (ow hw 53 rfl) (ow hw 36 rfl) (ow hw 55 rfl) (by decide) (lenOf pd__28Ljava_2flang_2fString_3b_29Lcom_2fexample_2fratable_2fratable_2fcore_2fPosted_3b rfl) rfl rfl rfl (W := 0) rfl (by decide) (by decide) (by decide) (by decide) (allS (om 0 rfl) all0) rfl ?_
  intro T1 h1 v1 X1 K1 hQ1
  obtain ⟨rfl, f2, f3, f4, f5⟩ := hQ1
  show OGo _ _ _ _ T1 (mkF m 5 #[.val (.ref a), .val (.ref u), .unset] [(.ref p1)])
  refine og_astoreN X1 6 #[.val (.ref a), .val (.ref u), .val (.ref p1)] d8_5 rfl rfl rfl ?_
  refine og_aloadN X1 7 d8_6 rfl rfl rfl ?_
  refine og_nonnullY X1 24 d8_7 (by decide) (by decide) ?_
  refine og_aloadN X1 25 d8_24 rfl rfl rfl ?_
  refine own_retA X1 d8_25 hret rfl rfl (by decide) (by decide) ?_
  exact ⟨rfl, f2, f3, f4, f5⟩
theorem ro_2n (a0 : Array Value) (hw : OHw a0 Z) (hWd : OWorld Z a0) (O0 : Old Z n0 h0) (a : Addr) (bk : Addr) (io : Addr) (kb : ClassId) (ki : ClassId) (u : Addr) (t : Addr) (kt : ClassId) (cs : List Int32) (p0 : Addr) (u0 : Addr) (t0 : Addr) (k0 : ClassId) (c0 : List Int32) (p1 : Addr) (u1 : Addr) (t1 : Addr) (k1 : ClassId) (c1 : List Int32) (q0 : Exa Z h0 a "com/example/ratable/ratable/core/PostedById") (q1 : Fld Z h0 a "com/example/ratable/ratable/core/PostedById" "buckets" "[Lcom/example/ratable/ratable/core/Posted;" (.ref bk)) (q2 : Fld Z h0 a "com/example/ratable/ratable/core/PostedById" "inOrder" "[Lcom/example/ratable/ratable/core/Posted;" (.ref io)) (q3 : Fld Z h0 a "com/example/ratable/ratable/core/PostedById" "size" "I" (.int 2)) (q4 : Arv Z h0 bk kb (.object "com/example/ratable/ratable/core/Posted") (16 : Int32) (own_bset (own_bset own_V0 c0 p0) c1 p1) .null) (q5 : Arv Z h0 io ki (.object "com/example/ratable/ratable/core/Posted") (16 : Int32) [(.ref p0), (.ref p1), .null, .null, .null, .null, .null, .null, .null, .null, .null, .null, .null, .null, .null, .null] .null) (q6 : Ovr Z kb "com/example/ratable/ratable/core/Posted") (q7 : Ovr Z ki "com/example/ratable/ratable/core/Posted") (q8 : bk ≠ io) (q9 : Exa Z h0 p0 "com/example/ratable/ratable/core/Posted") (q10 : Fld Z h0 p0 "com/example/ratable/ratable/core/Posted" "id" "Ljava/lang/String;" (.ref u0)) (q11 : Fld Z h0 p0 "com/example/ratable/ratable/core/Posted" "hash" "I" (.int (own_hh c0))) (q12 : Fld Z h0 p0 "com/example/ratable/ratable/core/Posted" "chained" "Lcom/example/ratable/ratable/core/Posted;" .null) (q13 : Exa Z h0 u0 "java/lang/String") (q14 : Fld Z h0 u0 "java/lang/String" "coder" "B" (.int 0)) (q15 : Fld Z h0 u0 "java/lang/String" "value" "[B" (.ref t0)) (q16 : Arv Z h0 t0 k0 .byte (Int32.ofNat (c0).length) ((c0).map fun c => Value.int (StrChars.lo8 c)) (.int 0)) (q17 : own_good c0) (q18 : Exa Z h0 p1 "com/example/ratable/ratable/core/Posted") (q19 : Fld Z h0 p1 "com/example/ratable/ratable/core/Posted" "id" "Ljava/lang/String;" (.ref u1)) (q20 : Fld Z h0 p1 "com/example/ratable/ratable/core/Posted" "hash" "I" (.int (own_hh c1))) (q21 : Fld Z h0 p1 "com/example/ratable/ratable/core/Posted" "chained" "Lcom/example/ratable/ratable/core/Posted;" (own_at (own_bset own_V0 c0 p0) c1)) (q22 : Exa Z h0 u1 "java/lang/String") (q23 : Fld Z h0 u1 "java/lang/String" "coder" "B" (.int 0)) (q24 : Fld Z h0 u1 "java/lang/String" "value" "[B" (.ref t1)) (q25 : Arv Z h0 t1 k1 .byte (Int32.ofNat (c1).length) ((c1).map fun c => Value.int (StrChars.lo8 c)) (.int 0)) (q26 : own_good c1) (q27 : Exa Z h0 u "java/lang/String") (q28 : Fld Z h0 u "java/lang/String" "coder" "B" (.int 0)) (q29 : Fld Z h0 u "java/lang/String" "value" "[B" (.ref t)) (q30 : Fld Z h0 u "java/lang/String" "hash" "I" (.int 0)) (q31 : Fld Z h0 u "java/lang/String" "hashIsZero" "Z" (.int 0)) (q32 : Exa Z h0 t "[B") (q33 : Arv Z h0 t kt .byte (Int32.ofNat (cs).length) ((cs).map fun c => Value.int (StrChars.lo8 c)) (.int 0)) (q34 : own_good cs) (q35 : u ≠ u0) (q36 : u ≠ u1) (q37 : ¬ c0 = cs) (q38 : ¬ c1 = cs) (g0 : n0 ≤ a ∧ a < h0.size) (g1 : n0 ≤ io ∧ io < h0.size) (g2 : n0 ≤ bk ∧ bk < h0.size) (g3 : n0 ≤ u ∧ u < h0.size) :
    OMet l Z own_EL n0 yN22 (Jvm.Cond.code yN22 prog_64_method_4_code 3 (some (.object "com/example/ratable/ratable/core/Posted")) :: wc) ({ frames := 6, cells := 9, slots := 36, locals := 86 } : Room) #[(.ref a), (.ref u)] h0 [a, io, bk, u] (fun vq hq => ∃ (r : Addr), vq = some (.ref r) ∧ h0.size ≤ r ∧ Fld Z hq a "com/example/ratable/ratable/core/PostedById" "buckets" "[Lcom/example/ratable/ratable/core/Posted;" (.ref bk) ∧ Fld Z hq a "com/example/ratable/ratable/core/PostedById" "inOrder" "[Lcom/example/ratable/ratable/core/Posted;" (.ref io) ∧ Fld Z hq a "com/example/ratable/ratable/core/PostedById" "size" "I" (.int 3) ∧ Arv Z hq bk kb (.object "com/example/ratable/ratable/core/Posted") (16 : Int32) (own_bset (own_bset (own_bset own_V0 c0 p0) c1 p1) cs r) .null ∧ Arv Z hq io ki (.object "com/example/ratable/ratable/core/Posted") (16 : Int32) [(.ref p0), (.ref p1), (.ref r), .null, .null, .null, .null, .null, .null, .null, .null, .null, .null, .null, .null, .null] .null ∧ Exa Z hq r "com/example/ratable/ratable/core/Posted" ∧ Fld Z hq r "com/example/ratable/ratable/core/Posted" "id" "Ljava/lang/String;" (.ref u) ∧ Fld Z hq r "com/example/ratable/ratable/core/Posted" "hash" "I" (.int (own_hh cs)) ∧ Fld Z hq u "java/lang/String" "coder" "B" (.int 0) ∧ Fld Z hq u "java/lang/String" "value" "[B" (.ref t) ∧ Fld Z hq u "java/lang/String" "hash" "I" (.int (own_hc cs)) ∧ Fld Z hq u "java/lang/String" "hashIsZero" "Z" (.int (own_hz cs))) := by
  refine own_enter #[.val (.ref a), .val (.ref u), .unset] pn_com_example_ratable_ratable_core_PostedById_open__Ljava_lang_String__Lcom_example_ratable_ratable_core_Posted_ (ef_ro_2n a bk io kb ki u t kt cs p0 u0 t0 k0 c0 p1 u1 t1 k1 c1) hWd.1 O0 (allS g0 (allS g1 (allS g2 (allS g3 all0)))) ?_
  intro p e s m below meth c T0 X0 hnm hret
  refine og_aloadN X0 1 d8_0 rfl rfl rfl ?_
  refine og_aloadN X0 2 d8_1 rfl rfl rfl ?_
  refine own_virt X0 5 (a := a) (argsL := [(.ref u)]) (rest := []) d8_2 q0 (fun _ hZ => notFace_of_selects (args := #[]) (mvT hZ (ow hw 54 rfl))) (rg_2n l Z n0 h0 [] a0 hw hWd X0.old a bk kb u t kt cs p0 u0 t0 k0 c0 p1 u1 t1 k1 c1 q0 q1 q4 q9 q10 q11 q12 q13 q14 q15 q16 q17 q18 q19 q20 q21 q22 q23 q24 q25 q26 q27 q28 q29 q30 q31 q32 q33 q34 q35 q36 q37 q38 (own_svb X0 (om 3 rfl))) (ow hw 51 rfl) (ow hw 52 rfl) (ow hw 54 rfl) (ow hw 53 rfl) (ow hw 36 rfl) (ow hw 55 rfl) (by decide) (lenOf pd__28Ljava_2flang_2fString_3b_29Lcom_2fexample_2fratable_2fratable_2fcore_2fPosted_3b rfl) rfl rfl rfl (W := 0) rfl (by decide) (by decide) (by decide) (by decide) (allS (om 3 rfl) all0) rfl ?_
  intro T1 h1 v1 X1 K1 hQ1
  obtain ⟨rfl, f2, f3, f4, f5⟩ := hQ1
  show OGo _ _ _ _ T1 (mkF m 5 #[.val (.ref a), .val (.ref u), .unset] [.null])
  refine og_astoreN X1 6 #[.val (.ref a), .val (.ref u), .val .null] d8_5 rfl rfl rfl ?_
  refine og_aloadN X1 7 d8_6 rfl rfl rfl ?_
  refine og_nonnullN X1 10 d8_7 rfl ?_
  refine own_new X1 13 d8_10 (ow hw 41 rfl) (ow hw 76 rfl) (ow hw 77 rfl) (by decide) (by decide) rfl ?_
  intro T6 h6 b6 X6 K6 G6 U6 E6 D6
  have f7 : Fld Z h6 b6 "com/example/ratable/ratable/core/Posted" "balances" "Lcom/example/ratable/ratable/core/Posted$Sums;" .null := D6 (Or.inr (ow hw 101 rfl)) (ty := (.object "com/example/ratable/ratable/core/Posted$Sums")) (by decide)
  have f8 : Fld Z h6 b6 "com/example/ratable/ratable/core/Posted" "invoices" "Lcom/example/ratable/ratable/core/Posted$Sums;" .null := D6 (Or.inr (ow hw 103 rfl)) (ty := (.object "com/example/ratable/ratable/core/Posted$Sums")) (by decide)
  have f9 : Fld Z h6 b6 "com/example/ratable/ratable/core/Posted" "id" "Ljava/lang/String;" .null := D6 (Or.inr (ow hw 105 rfl)) (ty := (.object "java/lang/String")) (by decide)
  have f10 : Fld Z h6 b6 "com/example/ratable/ratable/core/Posted" "hash" "I" (.int 0) := D6 (Or.inr (ow hw 108 rfl)) (ty := .int) (by decide)
  have f11 : Fld Z h6 b6 "com/example/ratable/ratable/core/Posted" "chained" "Lcom/example/ratable/ratable/core/Posted;" .null := D6 (Or.inl (ow hw 121 rfl)) (ty := (.object "com/example/ratable/ratable/core/Posted")) (by decide)
  refine og_dup X6 14 d8_13 rfl rfl ?_
  refine og_aloadN X6 15 d8_14 rfl rfl rfl ?_
  have f12 := q27.keep K1
  have f13 := f12.keep K6
  have f14 := f2.keep K6 nin0
  have f15 := f3.keep K6 nin0
  have f16 := f4.keep K6 nin0
  have f17 := f5.keep K6 nin0
  have f18 := q32.keep K1
  have f19 := f18.keep K6
  have f20 := q33.keep K1 (ninS (ne_exa f19 f13 (by decide)) nin0)
  have f21 := f20.keep K6 nin0
  refine own_spec X6 18 (a := b6) (argsL := [(.ref u)]) (rest := [(.ref b6)]) d8_15 rfl (rm14 l Z n0 h6 [] a0 hw hWd X6.old b6 u t kt cs E6 f7 f8 f9 f10 f11 f13 f14 f15 f16 f17 f19 f21 q34 (own_svb X6 (om 0 rfl))) (ow hw 78 rfl) (ow hw 79 rfl) (ow hw 77 rfl) (ow hw 80 rfl) (by decide) (lenOf pd__28Ljava_2flang_2fString_3b_29V rfl) rfl rfl rfl (W := 1) rfl (by decide) (by decide) (by decide) (by decide) (allS (om 0 rfl) all0) rfl ?_
  intro T22 h22 v22 X22 K22 hQ22
  obtain ⟨rfl, f23, f24, f25⟩ := hQ22
  show OGo _ _ _ _ T22 (mkF m 18 #[.val (.ref a), .val (.ref u), .val .null] [(.ref b6)])
  refine og_astoreN X22 19 #[.val (.ref a), .val (.ref u), .val (.ref b6)] d8_18 rfl rfl rfl ?_
  refine og_aloadN X22 20 d8_19 rfl rfl rfl ?_
  refine og_aloadN X22 21 d8_20 rfl rfl rfl ?_
  have f26 := q0.keep K1
  have f27 := f26.keep K6
  have f28 := f27.keep K22
  have f30 := f13.keep K22
  have f29 := q1.keep K1 (ninS (ne_exa f28 f30 (by decide)) nin0)
  have f31 := f29.keep K6 nin0
  have f32 := f31.keep K22 (ninS (Nat.ne_of_lt (Nat.lt_of_lt_of_le (Nat.lt_of_lt_of_le q0.lt K1.1) G6)) nin0)
  have f33 := q2.keep K1 (ninS (ne_exa f28 f30 (by decide)) nin0)
  have f34 := f33.keep K6 nin0
  have f35 := f34.keep K22 (ninS (Nat.ne_of_lt (Nat.lt_of_lt_of_le (Nat.lt_of_lt_of_le q0.lt K1.1) G6)) nin0)
  have f36 := q3.keep K1 (ninS (ne_exa f28 f30 (by decide)) nin0)
  have f37 := f36.keep K6 nin0
  have f38 := f37.keep K22 (ninS (Nat.ne_of_lt (Nat.lt_of_lt_of_le (Nat.lt_of_lt_of_le q0.lt K1.1) G6)) nin0)
  have f39 := q4.keep K1 (ninS (Ne.symm (own_neA q27 (ow hw 14 rfl) q4)) nin0)
  have f40 := f39.keep K6 nin0
  have f41 := f40.keep K22 (ninS (Nat.ne_of_lt (Nat.lt_of_lt_of_le (Nat.lt_of_lt_of_le q4.lt K1.1) G6)) nin0)
  have f42 := q5.keep K1 (ninS (Ne.symm (own_neA q27 (ow hw 14 rfl) q5)) nin0)
  have f43 := f42.keep K6 nin0
  have f44 := f43.keep K22 (ninS (Nat.ne_of_lt (Nat.lt_of_lt_of_le (Nat.lt_of_lt_of_le q5.lt K1.1) G6)) nin0)
  have f45 := E6.keep K22
  refine own_priv X22 24 (a := a) (argsL := [(.ref b6)]) (rest := []) d8_21 f28 (rp_put2 l Z n0 h22 [] a0 hw hWd X22.old a b6 bk io u kb ki (own_bset (own_bset own_V0 c0 p0) c1 p1) cs p0 p1 f28 f32 f35 f38 f41 f44 q6 q7 q8 f45 f23 f24 f25 (own_okP (own_okP own_ok0 _ _) _ _) (own_svb X22 (om 1 rfl)) (own_svb X22 (om 2 rfl)) (own_svb X22 (om 0 rfl)) (own_svb X22 (om 3 rfl))) (ow hw 109 rfl) (ow hw 110 rfl) (own_selfsel2 (ow hw 49 rfl) rfl (ow hw 110 rfl) (ow hw 111 rfl) (by decide)) (ow hw 111 rfl) (ow hw 36 rfl) (ow hw 112 rfl) (by decide) (lenOf pd__28Lcom_2fexample_2fratable_2fratable_2fcore_2fPosted_3b_29V rfl) rfl rfl rfl (W := 0) rfl (by decide) (by decide) (by decide) (by decide) (allS (om 1 rfl) (allS (om 2 rfl) (allS (om 0 rfl) (allS (om 3 rfl) all0)))) rfl ?_
  intro T46 h46 v46 X46 K46 hQ46
  obtain ⟨rfl, f47, f48, f49, f50, f51, f52, f53, f54⟩ := hQ46
  show OGo _ _ _ _ T46 (mkF m 24 #[.val (.ref a), .val (.ref u), .val (.ref b6)] [])
  refine og_aloadN X46 25 d8_24 rfl rfl rfl ?_
  have f55 := f45.keep K46
  have f56 := f14.keep K22 (ninS (Nat.ne_of_lt (Nat.lt_of_lt_of_le (Nat.lt_of_lt_of_le q27.lt K1.1) G6)) nin0)
  have f58 := f30.keep K46
  have f59 := f28.keep K46
  have f57 := f56.keep K46 (ninS (ne_exa f58 f59 (by decide)) (ninS (own_neA (f30.keep K46) (ow hw 14 rfl) f51) (ninS (Nat.ne_of_lt (Nat.lt_of_lt_of_le (Nat.lt_of_lt_of_le q27.lt K1.1) G6)) (ninS (own_neA (f30.keep K46) (ow hw 14 rfl) f50) nin0))))
  have f60 := f15.keep K22 (ninS (Nat.ne_of_lt (Nat.lt_of_lt_of_le (Nat.lt_of_lt_of_le q27.lt K1.1) G6)) nin0)
  have f61 := f60.keep K46 (ninS (ne_exa f58 f59 (by decide)) (ninS (own_neA f58 (ow hw 14 rfl) f51) (ninS (Nat.ne_of_lt (Nat.lt_of_lt_of_le (Nat.lt_of_lt_of_le q27.lt K1.1) G6)) (ninS (own_neA f58 (ow hw 14 rfl) f50) nin0))))
  have f62 := f16.keep K22 (ninS (Nat.ne_of_lt (Nat.lt_of_lt_of_le (Nat.lt_of_lt_of_le q27.lt K1.1) G6)) nin0)
  have f63 := f62.keep K46 (ninS (ne_exa f58 f59 (by decide)) (ninS (own_neA f58 (ow hw 14 rfl) f51) (ninS (Nat.ne_of_lt (Nat.lt_of_lt_of_le (Nat.lt_of_lt_of_le q27.lt K1.1) G6)) (ninS (own_neA f58 (ow hw 14 rfl) f50) nin0))))
  have f64 := f17.keep K22 (ninS (Nat.ne_of_lt (Nat.lt_of_lt_of_le (Nat.lt_of_lt_of_le q27.lt K1.1) G6)) nin0)
  have f65 := f64.keep K46 (ninS (ne_exa f58 f59 (by decide)) (ninS (own_neA f58 (ow hw 14 rfl) f51) (ninS (Nat.ne_of_lt (Nat.lt_of_lt_of_le (Nat.lt_of_lt_of_le q27.lt K1.1) G6)) (ninS (own_neA f58 (ow hw 14 rfl) f50) nin0))))
  refine own_retA X46 d8_25 hret rfl rfl (by decide) (by decide) ?_
  exact ⟨_, rfl, (Nat.le_trans K1.1 G6), f47, f48, f49, f50, f51, f55, f52, f53, f57, f61, f63, f65⟩
theorem rm18 (a0 : Array Value) (hw : OHw a0 Z) (hWd : OWorld Z a0) (O0 : Old Z n0 h0) (a : Addr) (x : Int32) (q0 : Fld Z h0 a "com/example/ratable/ratable/core/PostedById" "size" "I" (.int x)) :
    OMet l Z own_EL n0 yN23 (Jvm.Cond.code yN23 prog_64_method_2_code 1 (some .int) :: wc) ({ frames := 0, cells := 0, slots := 0, locals := 0 } : Room) #[(.ref a)] h0 [] (fun vq hq => vq = some (.int x)) := by
  refine own_enter #[.val (.ref a)] pn_com_example_ratable_ratable_core_PostedById_size___I (ef_rm18 a x) hWd.1 O0 all0 ?_
  intro p e s m below meth c T0 X0 hnm hret
  refine og_aloadN X0 1 d18_0 rfl rfl rfl ?_
  refine own_get X0 4 d18_1 (host := "") (Or.inl (ow hw 113 rfl)) Via.refl q0 rfl ?_
  intro T1 X2
  refine own_retI X2 d18_4 hret (by decide) (by decide) ?_
  exact rfl
theorem rm21 (a0 : Array Value) (hw : OHw a0 Z) (hWd : OWorld Z a0) (O0 : Old Z n0 h0) (x : Int32) (y : Int32) (q0 : ¬ x < 0) (q1 : x < y) :
    OMet l Z own_EL n0 yN24 (Jvm.Cond.code yN24 jdk_41_method_11_code 3 (some .int) :: wc) ({ frames := 0, cells := 0, slots := 0, locals := 0 } : Room) #[(.int x), (.int y), .null] h0 [] (fun vq hq => vq = some (.int x)) := by
  refine own_enter #[.val (.int x), .val (.int y), .val .null] pn_jdk_internal_util_Preconditions_checkIndex__IILjava_util_function_BiFunction__I (ef_rm21 x y) hWd.1 O0 all0 ?_
  intro p e s m below meth c T0 X0 hnm hret
  refine og_iloadN X0 1 d21_0 rfl rfl ?_
  refine og_ifN X0 4 d21_1 (XT.i0_lt_f q0) rfl ?_
  refine og_iloadN X0 5 d21_4 rfl rfl ?_
  refine og_iloadN X0 6 d21_5 rfl rfl ?_
  refine og_icmpY X0 16 d21_6 (XT.ii_lt_t q1) (by decide) (by decide) ?_
  refine og_iloadN X0 17 d21_16 rfl rfl ?_
  refine own_retI X0 d21_17 hret (by decide) (by decide) ?_
  exact rfl
theorem rm20 (a0 : Array Value) (hw : OHw a0 Z) (hWd : OWorld Z a0) (O0 : Old Z n0 h0) (x : Int32) (y : Int32) (q0 : ¬ x < 0) (q1 : x < y) :
    OMet l Z own_EL n0 yN25 (Jvm.Cond.code yN25 jdk_31_method_17_code 2 (some .int) :: wc) ({ frames := 1, cells := 0, slots := 0, locals := 14 } : Room) #[(.int x), (.int y)] h0 [] (fun vq hq => vq = some (.int x)) := by
  refine own_enter #[.val (.int x), .val (.int y)] pn_java_util_Objects_checkIndex__II_I (ef_rm20 x y) hWd.1 O0 all0 ?_
  intro p e s m below meth c T0 X0 hnm hret
  refine og_iloadN X0 1 d20_0 rfl rfl ?_
  refine og_iloadN X0 2 d20_1 rfl rfl ?_
  refine og_aconstNull X0 3 d20_2 rfl ?_
  refine own_stat X0 6 (argsL := [(.int x), (.int y), .null]) (rest := []) d20_3 (rm21 l Z n0 h0 [] a0 hw hWd X0.old x y q0 q1 ) (ow hw 136 rfl) (ow hw 137 rfl) (ow hw 138 rfl) (ow hw 139 rfl) (by decide) (lenOf pd__28IILjava_2futil_2ffunction_2fBiFunction_3b_29I rfl) rfl rfl rfl (W := 0) rfl (by decide) (by decide) (by decide) (by decide) all0 rfl ?_
  intro T1 h1 v1 X1 K1 hQ1
  obtain rfl := hQ1
  show OGo _ _ _ _ T1 (mkF m 6 #[.val (.int x), .val (.int y)] [(.int x)])
  refine own_retI X1 d20_6 hret (by decide) (by decide) ?_
  exact rfl
theorem rt_10 (a0 : Array Value) (hw : OHw a0 Z) (hWd : OWorld Z a0) (O0 : Old Z n0 h0) (a : Addr) (io : Addr) (ki : ClassId) (p0 : Addr) (q0 : Fld Z h0 a "com/example/ratable/ratable/core/PostedById" "size" "I" (.int 1)) (q1 : Fld Z h0 a "com/example/ratable/ratable/core/PostedById" "inOrder" "[Lcom/example/ratable/ratable/core/Posted;" (.ref io)) (q2 : Arv Z h0 io ki (.object "com/example/ratable/ratable/core/Posted") (16 : Int32) [(.ref p0), .null, .null, .null, .null, .null, .null, .null, .null, .null, .null, .null, .null, .null, .null, .null] .null) :
    OMet l Z own_EL n0 yN26 (Jvm.Cond.code yN26 prog_64_method_6_code 2 (some (.object "com/example/ratable/ratable/core/Posted")) :: wc) ({ frames := 2, cells := 0, slots := 0, locals := 27 } : Room) #[(.ref a), (.int 0)] h0 [] (fun vq hq => vq = some (.ref p0)) := by
  refine own_enter #[.val (.ref a), .val (.int 0)] pn_com_example_ratable_ratable_core_PostedById_at__I_Lcom_example_ratable_ratable_core_Posted_ (ef_rt_10 a io ki p0) hWd.1 O0 all0 ?_
  intro p e s m below meth c T0 X0 hnm hret
  refine og_iloadN X0 1 d19_0 rfl rfl ?_
  refine og_aloadN X0 2 d19_1 rfl rfl rfl ?_
  refine own_get X0 5 d19_2 (host := "") (Or.inl (ow hw 113 rfl)) Via.refl q0 rfl ?_
  intro T1 X2
  refine own_stat X2 8 (argsL := [(.int 0), (.int 1)]) (rest := []) d19_5 (rm20 l Z n0 h0 [] a0 hw hWd X2.old (0 : Int32) (1 : Int32) (by decide) (by decide) ) (ow hw 132 rfl) (ow hw 133 rfl) (ow hw 134 rfl) (ow hw 135 rfl) (by decide) (lenOf pd__28II_29I rfl) rfl rfl rfl (W := 0) rfl (by decide) (by decide) (by decide) (by decide) all0 rfl ?_
  intro T3 h3 v3 X3 K3 hQ3
  obtain rfl := hQ3
  show OGo _ _ _ _ T3 (mkF m 8 #[.val (.ref a), .val (.int 0)] [(.int 0)])
  refine og_pop X3 9 d19_8 rfl rfl ?_
  refine og_aloadN X3 10 d19_9 rfl rfl rfl ?_
  have f4 := q1.keep K3 nin0
  refine own_get X3 13 d19_10 (host := "") (Or.inl (ow hw 44 rfl)) Via.refl f4 rfl ?_
  intro T5 X6
  refine og_iloadN X6 14 d19_13 rfl rfl ?_
  have f7 := q2.keep K3 nin0
  refine own_ldR X6 15 d19_14 f7 rfl (by decide) (by decide) rfl rfl ?_
  refine own_retA X6 d19_15 hret rfl rfl (by decide) (by decide) ?_
  exact rfl
theorem rt_20 (a0 : Array Value) (hw : OHw a0 Z) (hWd : OWorld Z a0) (O0 : Old Z n0 h0) (a : Addr) (io : Addr) (ki : ClassId) (p0 : Addr) (p1 : Addr) (q0 : Fld Z h0 a "com/example/ratable/ratable/core/PostedById" "size" "I" (.int 2)) (q1 : Fld Z h0 a "com/example/ratable/ratable/core/PostedById" "inOrder" "[Lcom/example/ratable/ratable/core/Posted;" (.ref io)) (q2 : Arv Z h0 io ki (.object "com/example/ratable/ratable/core/Posted") (16 : Int32) [(.ref p0), (.ref p1), .null, .null, .null, .null, .null, .null, .null, .null, .null, .null, .null, .null, .null, .null] .null) :
    OMet l Z own_EL n0 yN26 (Jvm.Cond.code yN26 prog_64_method_6_code 2 (some (.object "com/example/ratable/ratable/core/Posted")) :: wc) ({ frames := 2, cells := 0, slots := 0, locals := 27 } : Room) #[(.ref a), (.int 0)] h0 [] (fun vq hq => vq = some (.ref p0)) := by
  refine own_enter #[.val (.ref a), .val (.int 0)] pn_com_example_ratable_ratable_core_PostedById_at__I_Lcom_example_ratable_ratable_core_Posted_ (ef_rt_20 a io ki p0 p1) hWd.1 O0 all0 ?_
  intro p e s m below meth c T0 X0 hnm hret
  refine og_iloadN X0 1 d19_0 rfl rfl ?_
  refine og_aloadN X0 2 d19_1 rfl rfl rfl ?_
  refine own_get X0 5 d19_2 (host := "") (Or.inl (ow hw 113 rfl)) Via.refl q0 rfl ?_
  intro T1 X2
  refine own_stat X2 8 (argsL := [(.int 0), (.int 2)]) (rest := []) d19_5 (rm20 l Z n0 h0 [] a0 hw hWd X2.old (0 : Int32) (2 : Int32) (by decide) (by decide) ) (ow hw 132 rfl) (ow hw 133 rfl) (ow hw 134 rfl) (ow hw 135 rfl) (by decide) (lenOf pd__28II_29I rfl) rfl rfl rfl (W := 0) rfl (by decide) (by decide) (by decide) (by decide) all0 rfl ?_
  intro T3 h3 v3 X3 K3 hQ3
  obtain rfl := hQ3
  show OGo _ _ _ _ T3 (mkF m 8 #[.val (.ref a), .val (.int 0)] [(.int 0)])
  refine og_pop X3 9 d19_8 rfl rfl ?_
  refine og_aloadN X3 10 d19_9 rfl rfl rfl ?_
  have f4 := q1.keep K3 nin0
  refine own_get X3 13 d19_10 (host := "") (Or.inl (ow hw 44 rfl)) Via.refl f4 rfl ?_
  intro T5 X6
  refine og_iloadN X6 14 d19_13 rfl rfl ?_
  have f7 := q2.keep K3 nin0
  refine own_ldR X6 15 d19_14 f7 rfl (by decide) (by decide) rfl rfl ?_
  refine own_retA X6 d19_15 hret rfl rfl (by decide) (by decide) ?_
  exact rfl
theorem rt_21 (a0 : Array Value) (hw : OHw a0 Z) (hWd : OWorld Z a0) (O0 : Old Z n0 h0) (a : Addr) (io : Addr) (ki : ClassId) (p0 : Addr) (p1 : Addr) (q0 : Fld Z h0 a "com/example/ratable/ratable/core/PostedById" "size" "I" (.int 2)) (q1 : Fld Z h0 a "com/example/ratable/ratable/core/PostedById" "inOrder" "[Lcom/example/ratable/ratable/core/Posted;" (.ref io)) (q2 : Arv Z h0 io ki (.object "com/example/ratable/ratable/core/Posted") (16 : Int32) [(.ref p0), (.ref p1), .null, .null, .null, .null, .null, .null, .null, .null, .null, .null, .null, .null, .null, .null] .null) :
    OMet l Z own_EL n0 yN26 (Jvm.Cond.code yN26 prog_64_method_6_code 2 (some (.object "com/example/ratable/ratable/core/Posted")) :: wc) ({ frames := 2, cells := 0, slots := 0, locals := 27 } : Room) #[(.ref a), (.int 1)] h0 [] (fun vq hq => vq = some (.ref p1)) := by
  refine own_enter #[.val (.ref a), .val (.int 1)] pn_com_example_ratable_ratable_core_PostedById_at__I_Lcom_example_ratable_ratable_core_Posted_ (ef_rt_21 a io ki p0 p1) hWd.1 O0 all0 ?_
  intro p e s m below meth c T0 X0 hnm hret
  refine og_iloadN X0 1 d19_0 rfl rfl ?_
  refine og_aloadN X0 2 d19_1 rfl rfl rfl ?_
  refine own_get X0 5 d19_2 (host := "") (Or.inl (ow hw 113 rfl)) Via.refl q0 rfl ?_
  intro T1 X2
  refine own_stat X2 8 (argsL := [(.int 1), (.int 2)]) (rest := []) d19_5 (rm20 l Z n0 h0 [] a0 hw hWd X2.old (1 : Int32) (2 : Int32) (by decide) (by decide) ) (ow hw 132 rfl) (ow hw 133 rfl) (ow hw 134 rfl) (ow hw 135 rfl) (by decide) (lenOf pd__28II_29I rfl) rfl rfl rfl (W := 0) rfl (by decide) (by decide) (by decide) (by decide) all0 rfl ?_
  intro T3 h3 v3 X3 K3 hQ3
  obtain rfl := hQ3
  show OGo _ _ _ _ T3 (mkF m 8 #[.val (.ref a), .val (.int 1)] [(.int 1)])
  refine og_pop X3 9 d19_8 rfl rfl ?_
  refine og_aloadN X3 10 d19_9 rfl rfl rfl ?_
  have f4 := q1.keep K3 nin0
  refine own_get X3 13 d19_10 (host := "") (Or.inl (ow hw 44 rfl)) Via.refl f4 rfl ?_
  intro T5 X6
  refine og_iloadN X6 14 d19_13 rfl rfl ?_
  have f7 := q2.keep K3 nin0
  refine own_ldR X6 15 d19_14 f7 rfl (by decide) (by decide) rfl rfl ?_
  refine own_retA X6 d19_15 hret rfl rfl (by decide) (by decide) ?_
  exact rfl
theorem rt_30 (a0 : Array Value) (hw : OHw a0 Z) (hWd : OWorld Z a0) (O0 : Old Z n0 h0) (a : Addr) (io : Addr) (ki : ClassId) (p0 : Addr) (p1 : Addr) (p2 : Addr) (q0 : Fld Z h0 a "com/example/ratable/ratable/core/PostedById" "size" "I" (.int 3)) (q1 : Fld Z h0 a "com/example/ratable/ratable/core/PostedById" "inOrder" "[Lcom/example/ratable/ratable/core/Posted;" (.ref io)) (q2 : Arv Z h0 io ki (.object "com/example/ratable/ratable/core/Posted") (16 : Int32) [(.ref p0), (.ref p1), (.ref p2), .null, .null, .null, .null, .null, .null, .null, .null, .null, .null, .null, .null, .null] .null) :
    OMet l Z own_EL n0 yN26 (Jvm.Cond.code yN26 prog_64_method_6_code 2 (some (.object "com/example/ratable/ratable/core/Posted")) :: wc) ({ frames := 2, cells := 0, slots := 0, locals := 27 } : Room) #[(.ref a), (.int 0)] h0 [] (fun vq hq => vq = some (.ref p0)) := by
  refine own_enter #[.val (.ref a), .val (.int 0)] pn_com_example_ratable_ratable_core_PostedById_at__I_Lcom_example_ratable_ratable_core_Posted_ (ef_rt_30 a io ki p0 p1 p2) hWd.1 O0 all0 ?_
  intro p e s m below meth c T0 X0 hnm hret
  refine og_iloadN X0 1 d19_0 rfl rfl ?_
  refine og_aloadN X0 2 d19_1 rfl rfl rfl ?_
  refine own_get X0 5 d19_2 (host := "") (Or.inl (ow hw 113 rfl)) Via.refl q0 rfl ?_
  intro T1 X2
  refine own_stat X2 8 (argsL := [(.int 0), (.int 3)]) (rest := []) d19_5 (rm20 l Z n0 h0 [] a0 hw hWd X2.old (0 : Int32) (3 : Int32) (by decide) (by decide) ) (ow hw 132 rfl) (ow hw 133 rfl) (ow hw 134 rfl) (ow hw 135 rfl) (by decide) (lenOf pd__28II_29I rfl) rfl rfl rfl (W := 0) rfl (by decide) (by decide) (by decide) (by decide) all0 rfl ?_
  intro T3 h3 v3 X3 K3 hQ3
  obtain rfl := hQ3
  show OGo _ _ _ _ T3 (mkF m 8 #[.val (.ref a), .val (.int 0)] [(.int 0)])
  refine og_pop X3 9 d19_8 rfl rfl ?_
  refine og_aloadN X3 10 d19_9 rfl rfl rfl ?_
  have f4 := q1.keep K3 nin0
  refine own_get X3 13 d19_10 (host := "") (Or.inl (ow hw 44 rfl)) Via.refl f4 rfl ?_
  intro T5 X6
  refine og_iloadN X6 14 d19_13 rfl rfl ?_
  have f7 := q2.keep K3 nin0
  refine own_ldR X6 15 d19_14 f7 rfl (by decide) (by decide) rfl rfl ?_
  refine own_retA X6 d19_15 hret rfl rfl (by decide) (by decide) ?_
  exact rfl
theorem rt_31 (a0 : Array Value) (hw : OHw a0 Z) (hWd : OWorld Z a0) (O0 : Old Z n0 h0) (a : Addr) (io : Addr) (ki : ClassId) (p0 : Addr) (p1 : Addr) (p2 : Addr) (q0 : Fld Z h0 a "com/example/ratable/ratable/core/PostedById" "size" "I" (.int 3)) (q1 : Fld Z h0 a "com/example/ratable/ratable/core/PostedById" "inOrder" "[Lcom/example/ratable/ratable/core/Posted;" (.ref io)) (q2 : Arv Z h0 io ki (.object "com/example/ratable/ratable/core/Posted") (16 : Int32) [(.ref p0), (.ref p1), (.ref p2), .null, .null, .null, .null, .null, .null, .null, .null, .null, .null, .null, .null, .null] .null) :
    OMet l Z own_EL n0 yN26 (Jvm.Cond.code yN26 prog_64_method_6_code 2 (some (.object "com/example/ratable/ratable/core/Posted")) :: wc) ({ frames := 2, cells := 0, slots := 0, locals := 27 } : Room) #[(.ref a), (.int 1)] h0 [] (fun vq hq => vq = some (.ref p1)) := by
  refine own_enter #[.val (.ref a), .val (.int 1)] pn_com_example_ratable_ratable_core_PostedById_at__I_Lcom_example_ratable_ratable_core_Posted_ (ef_rt_31 a io ki p0 p1 p2) hWd.1 O0 all0 ?_
  intro p e s m below meth c T0 X0 hnm hret
  refine og_iloadN X0 1 d19_0 rfl rfl ?_
  refine og_aloadN X0 2 d19_1 rfl rfl rfl ?_
  refine own_get X0 5 d19_2 (host := "") (Or.inl (ow hw 113 rfl)) Via.refl q0 rfl ?_
  intro T1 X2
  refine own_stat X2 8 (argsL := [(.int 1), (.int 3)]) (rest := []) d19_5 (rm20 l Z n0 h0 [] a0 hw hWd X2.old (1 : Int32) (3 : Int32) (by decide) (by decide) ) (ow hw 132 rfl) (ow hw 133 rfl) (ow hw 134 rfl) (ow hw 135 rfl) (by decide) (lenOf pd__28II_29I rfl) rfl rfl rfl (W := 0) rfl (by decide) (by decide) (by decide) (by decide) all0 rfl ?_
  intro T3 h3 v3 X3 K3 hQ3
  obtain rfl := hQ3
  show OGo _ _ _ _ T3 (mkF m 8 #[.val (.ref a), .val (.int 1)] [(.int 1)])
  refine og_pop X3 9 d19_8 rfl rfl ?_
  refine og_aloadN X3 10 d19_9 rfl rfl rfl ?_
  have f4 := q1.keep K3 nin0
  refine own_get X3 13 d19_10 (host := "") (Or.inl (ow hw 44 rfl)) Via.refl f4 rfl ?_
  intro T5 X6
  refine og_iloadN X6 14 d19_13 rfl rfl ?_
  have f7 := q2.keep K3 nin0
  refine own_ldR X6 15 d19_14 f7 rfl (by decide) (by decide) rfl rfl ?_
  refine own_retA X6 d19_15 hret rfl rfl (by decide) (by decide) ?_
  exact rfl
theorem rt_32 (a0 : Array Value) (hw : OHw a0 Z) (hWd : OWorld Z a0) (O0 : Old Z n0 h0) (a : Addr) (io : Addr) (ki : ClassId) (p0 : Addr) (p1 : Addr) (p2 : Addr) (q0 : Fld Z h0 a "com/example/ratable/ratable/core/PostedById" "size" "I" (.int 3)) (q1 : Fld Z h0 a "com/example/ratable/ratable/core/PostedById" "inOrder" "[Lcom/example/ratable/ratable/core/Posted;" (.ref io)) (q2 : Arv Z h0 io ki (.object "com/example/ratable/ratable/core/Posted") (16 : Int32) [(.ref p0), (.ref p1), (.ref p2), .null, .null, .null, .null, .null, .null, .null, .null, .null, .null, .null, .null, .null] .null) :
    OMet l Z own_EL n0 yN26 (Jvm.Cond.code yN26 prog_64_method_6_code 2 (some (.object "com/example/ratable/ratable/core/Posted")) :: wc) ({ frames := 2, cells := 0, slots := 0, locals := 27 } : Room) #[(.ref a), (.int 2)] h0 [] (fun vq hq => vq = some (.ref p2)) := by
  refine own_enter #[.val (.ref a), .val (.int 2)] pn_com_example_ratable_ratable_core_PostedById_at__I_Lcom_example_ratable_ratable_core_Posted_ (ef_rt_32 a io ki p0 p1 p2) hWd.1 O0 all0 ?_
  intro p e s m below meth c T0 X0 hnm hret
  refine og_iloadN X0 1 d19_0 rfl rfl ?_
  refine og_aloadN X0 2 d19_1 rfl rfl rfl ?_
  refine own_get X0 5 d19_2 (host := "") (Or.inl (ow hw 113 rfl)) Via.refl q0 rfl ?_
  intro T1 X2
  refine own_stat X2 8 (argsL := [(.int 2), (.int 3)]) (rest := []) d19_5 (rm20 l Z n0 h0 [] a0 hw hWd X2.old (2 : Int32) (3 : Int32) (by decide) (by decide) ) (ow hw 132 rfl) (ow hw 133 rfl) (ow hw 134 rfl) (ow hw 135 rfl) (by decide) (lenOf pd__28II_29I rfl) rfl rfl rfl (W := 0) rfl (by decide) (by decide) (by decide) (by decide) all0 rfl ?_
  intro T3 h3 v3 X3 K3 hQ3
  obtain rfl := hQ3
  show OGo _ _ _ _ T3 (mkF m 8 #[.val (.ref a), .val (.int 2)] [(.int 2)])
  refine og_pop X3 9 d19_8 rfl rfl ?_
  refine og_aloadN X3 10 d19_9 rfl rfl rfl ?_
  have f4 := q1.keep K3 nin0
  refine own_get X3 13 d19_10 (host := "") (Or.inl (ow hw 44 rfl)) Via.refl f4 rfl ?_
  intro T5 X6
  refine og_iloadN X6 14 d19_13 rfl rfl ?_
  have f7 := q2.keep K3 nin0
  refine own_ldR X6 15 d19_14 f7 rfl (by decide) (by decide) rfl rfl ?_
  refine own_retA X6 d19_15 hret rfl rfl (by decide) (by decide) ?_
  exact rfl
theorem rm22 (a0 : Array Value) (hw : OHw a0 Z) (hWd : OWorld Z a0) (O0 : Old Z n0 h0) (q : Addr) (u : Addr) (t : Addr) (kt : ClassId) (cs : List Int32) (q0 : Fld Z h0 q "com/example/ratable/ratable/core/Posted" "id" "Ljava/lang/String;" (.ref u)) (q1 : Exa Z h0 u "java/lang/String") (q2 : Fld Z h0 u "java/lang/String" "coder" "B" (.int 0)) (q3 : Fld Z h0 u "java/lang/String" "value" "[B" (.ref t)) (q4 : Arv Z h0 t kt .byte (Int32.ofNat (cs).length) ((cs).map fun c => Value.int (StrChars.lo8 c)) (.int 0)) (q5 : own_good cs) :
    OMet l Z own_EL n0 yN27 (Jvm.Cond.code yN27 method_3_code 3 (some .boolean) :: wc) ({ frames := 2, cells := 0, slots := 0, locals := 28 } : Room) #[(.ref q), (.ref q), (.ref u)] h0 [] (fun vq hq => vq = some (.int 1)) := by
  refine own_enter #[.val (.ref q), .val (.ref q), .val (.ref u)] pn_com_example_ratable_ratable_core_PostedByIdAtPinLaw_same__Lcom_example_ratable_ratable_core_Posted_Lcom_example_ratable_ratable_core_Posted_Ljava_lang_String__Z (ef_rm22 q u t kt cs) hWd.1 O0 all0 ?_
  intro p e s m below meth c T0 X0 hnm hret
  refine og_aloadN X0 1 d22_0 rfl rfl rfl ?_
  refine og_aloadN X0 2 d22_1 rfl rfl rfl ?_
  refine og_acmpN X0 5 d22_2 rfl rfl (XT.aa_ne_f rfl) rfl ?_
  refine og_aloadN X0 6 d22_5 rfl rfl rfl ?_
  refine own_get X0 9 d22_6 (host := "") (Or.inl (ow hw 143 rfl)) Via.refl q0 rfl ?_
  intro T1 X2
  refine og_aloadN X2 10 d22_9 rfl rfl rfl ?_
  have f3 := own_rawS q1 q2 q3 q4 q5
  refine own_strEq X2 13 d22_10 f3 f3 (own_wE hw) (ow hw 14 rfl) hWd.2.1 hWd.2.2 (ow hw 144 rfl) (ow hw 145 rfl) (ow hw 147 rfl) (ow hw 146 rfl) rfl (W := 0) rfl (by decide) (by decide) (by decide) (by decide) rfl ?_
  intro T4 X5
  refine og_ifN X5 16 d22_13 (XT.i0_eq_f (own_eqbS _)) rfl ?_
  refine og_iconst X5 17 (1 : Int32) d22_16 rfl rfl ?_
  refine og_goto X5 21 d22_17 (by decide) (by decide) ?_
  refine own_retZ X5 d22_21 hret rfl (by decide) (by decide) ?_
  exact rfl
theorem rm0 (a0 : Array Value) (hw : OHw a0 Z) (hWd : OWorld Z a0) (O0 : Old Z n0 h0) (pa : Int32) (pb : Int32) (pc : Int32) (pd : Int32)  :
    OMet l Z own_EL n0 x (Jvm.Cond.code x code maxLocals ret :: wc) room_1 #[(.int pa), (.int pb), (.int pc), (.int pd)] h0 [] (fun vq hq => vq = some (.int 1)) := by
  refine own_enter #[.val (.int pa), .val (.int pb), .val (.int pc), .val (.int pd), .unset, .unset, .unset, .unset, .unset, .unset, .unset, .unset, .unset, .unset, .unset, .unset] pn_com_example_ratable_ratable_core_PostedByIdAtPinLaw_law__IIII_Z (ef_rm0 pa pb pc pd) hWd.1 O0 all0 ?_
  intro p e s m below meth c T0 X0 hnm hret
  refine og_iloadN X0 1 at_0 rfl rfl ?_
  refine own_stat X0 4 (argsL := [(.int pa)]) (rest := []) at_1 (rm1 l Z n0 h0 [] a0 hw hWd X0.old pa  ) (ow hw 0 rfl) (ow hw 1 rfl) (ow hw 2 rfl) (ow hw 3 rfl) (by decide) (lenOf pd__28I_29Ljava_2flang_2fString_3b rfl) rfl rfl rfl (W := 0) rfl (by decide) (by decide) (by decide) (by decide) all0 rfl ?_
  intro T1 h1 v1 X1 K1 hQ1
  obtain ⟨r1, t1, kt1, cs1, rfl, ge_r1, f2, f3, f4, f5, f6, f7, f8, f9⟩ := hQ1
  show OGo _ _ _ _ T1 (mkF m 4 #[.val (.int pa), .val (.int pb), .val (.int pc), .val (.int pd), .unset, .unset, .unset, .unset, .unset, .unset, .unset, .unset, .unset, .unset, .unset, .unset] [(.ref r1)])
  refine og_astore X1 6 #[.val (.int pa), .val (.int pb), .val (.int pc), .val (.int pd), .val (.ref r1), .unset, .unset, .unset, .unset, .unset, .unset, .unset, .unset, .unset, .unset, .unset] at_4 rfl rfl rfl ?_
  refine og_iloadN X1 7 at_6 rfl rfl ?_
  refine own_stat X1 10 (argsL := [(.int pb)]) (rest := []) at_7 (rm1 l Z n0 h1 [] a0 hw hWd X1.old pb  ) (ow hw 0 rfl) (ow hw 1 rfl) (ow hw 2 rfl) (ow hw 3 rfl) (by decide) (lenOf pd__28I_29Ljava_2flang_2fString_3b rfl) rfl rfl rfl (W := 0) rfl (by decide) (by decide) (by decide) (by decide) all0 rfl ?_
  intro T10 h10 v10 X10 K10 hQ10
  obtain ⟨r10, t10, kt10, cs10, rfl, ge_r10, f11, f12, f13, f14, f15, f16, f17, f18⟩ := hQ10
  show OGo _ _ _ _ T10 (mkF m 10 #[.val (.int pa), .val (.int pb), .val (.int pc), .val (.int pd), .val (.ref r1), .unset, .unset, .unset, .unset, .unset, .unset, .unset, .unset, .unset, .unset, .unset] [(.ref r10)])
  refine og_astore X10 12 #[.val (.int pa), .val (.int pb), .val (.int pc), .val (.int pd), .val (.ref r1), .val (.ref r10), .unset, .unset, .unset, .unset, .unset, .unset, .unset, .unset, .unset, .unset] at_10 rfl rfl rfl ?_
  refine og_iloadN X10 13 at_12 rfl rfl ?_
  refine own_stat X10 16 (argsL := [(.int pc)]) (rest := []) at_13 (rm1 l Z n0 h10 [] a0 hw hWd X10.old pc  ) (ow hw 0 rfl) (ow hw 1 rfl) (ow hw 2 rfl) (ow hw 3 rfl) (by decide) (lenOf pd__28I_29Ljava_2flang_2fString_3b rfl) rfl rfl rfl (W := 0) rfl (by decide) (by decide) (by decide) (by decide) all0 rfl ?_
  intro T19 h19 v19 X19 K19 hQ19
  obtain ⟨r19, t19, kt19, cs19, rfl, ge_r19, f20, f21, f22, f23, f24, f25, f26, f27⟩ := hQ19
  show OGo _ _ _ _ T19 (mkF m 16 #[.val (.int pa), .val (.int pb), .val (.int pc), .val (.int pd), .val (.ref r1), .val (.ref r10), .unset, .unset, .unset, .unset, .unset, .unset, .unset, .unset, .unset, .unset] [(.ref r19)])
  refine og_astore X19 18 #[.val (.int pa), .val (.int pb), .val (.int pc), .val (.int pd), .val (.ref r1), .val (.ref r10), .val (.ref r19), .unset, .unset, .unset, .unset, .unset, .unset, .unset, .unset, .unset] at_16 rfl rfl rfl ?_
  refine og_iloadN X19 19 at_18 rfl rfl ?_
  refine og_iconst X19 20 (3 : Int32) at_19 rfl rfl ?_
  refine og_iand X19 21 at_20 rfl ?_
  refine og_istore X19 23 #[.val (.int pa), .val (.int pb), .val (.int pc), .val (.int pd), .val (.ref r1), .val (.ref r10), .val (.ref r19), .val (.int (pd &&& (3 : Int32))), .unset, .unset, .unset, .unset, .unset, .unset, .unset, .unset] at_21 rfl rfl ?_
  refine og_iconst X19 24 (3 : Int32) at_23 rfl rfl ?_
  refine own_anew X19 27 at_24 (ow hw 30 rfl) (ow hw 31 rfl) (by decide) (cap := 3) (by decide) (by decide) (by decide) (by decide) rfl ?_
  intro T28 h28 b28 kb28 X28 K28 G28 U28 A28 O28
  have f29 : Arv Z h28 b28 kb28 (.object "com/example/ratable/ratable/core/Posted") (3 : Int32) [.null, .null, .null] .null := A28
  refine og_astore X28 29 #[.val (.int pa), .val (.int pb), .val (.int pc), .val (.int pd), .val (.ref r1), .val (.ref r10), .val (.ref r19), .val (.int (pd &&& (3 : Int32))), .val (.ref b28), .unset, .unset, .unset, .unset, .unset, .unset, .unset] at_27 rfl rfl rfl ?_
  refine og_iconst X28 30 (3 : Int32) at_29 rfl rfl ?_
  refine own_anew X28 33 at_30 (ow hw 32 rfl) (ow hw 33 rfl) (by decide) (cap := 3) (by decide) (by decide) (by decide) (by decide) rfl ?_
  intro T30 h30 b30 kb30 X30 K30 G30 U30 A30 O30
  have f31 : Arv Z h30 b30 kb30 (.object "java/lang/String") (3 : Int32) [.null, .null, .null] .null := A30
  refine og_astore X30 35 #[.val (.int pa), .val (.int pb), .val (.int pc), .val (.int pd), .val (.ref r1), .val (.ref r10), .val (.ref r19), .val (.int (pd &&& (3 : Int32))), .val (.ref b28), .val (.ref b30), .unset, .unset, .unset, .unset, .unset, .unset] at_33 rfl rfl rfl ?_
  refine own_new X30 38 at_35 (ow hw 34 rfl) (ow hw 35 rfl) (ow hw 36 rfl) (by decide) (by decide) rfl ?_
  intro T32 h32 b32 X32 K32 G32 U32 E32 D32
  have f33 : Fld Z h32 b32 "com/example/ratable/ratable/core/PostedById" "buckets" "[Lcom/example/ratable/ratable/core/Posted;" .null := D32 (Or.inl (ow hw 43 rfl)) (ty := (.array (.object "com/example/ratable/ratable/core/Posted"))) (by decide)
  have f34 : Fld Z h32 b32 "com/example/ratable/ratable/core/PostedById" "inOrder" "[Lcom/example/ratable/ratable/core/Posted;" .null := D32 (Or.inl (ow hw 45 rfl)) (ty := (.array (.object "com/example/ratable/ratable/core/Posted"))) (by decide)
  have f35 : Fld Z h32 b32 "com/example/ratable/ratable/core/PostedById" "size" "I" (.int 0) := D32 (Or.inl (ow hw 114 rfl)) (ty := .int) (by decide)
  refine og_dup X32 39 at_38 rfl rfl ?_
  refine own_spec X32 42 (a := b32) (argsL := []) (rest := [(.ref b32)]) at_39 rfl (rm7 l Z n0 h32 [] a0 hw hWd X32.old b32 E32 f33 f34 f35 (own_svb X32 (om 0 rfl))) (ow hw 37 rfl) (ow hw 38 rfl) (ow hw 36 rfl) (ow hw 39 rfl) (by decide) (lenOf pd__28_29V rfl) rfl rfl rfl (W := 1) rfl (by decide) (by decide) (by decide) (by decide) (allS (om 0 rfl) all0) rfl ?_
  intro T36 h36 v36 X36 K36 hQ36
  obtain ⟨bk36, kb36, io36, ki36, rfl, ge_bk36, ge_io36, f37, f38, f39, f40, f41, f42, f43, f44⟩ := hQ36
  show OGo _ _ _ _ T36 (mkF m 42 #[.val (.int pa), .val (.int pb), .val (.int pc), .val (.int pd), .val (.ref r1), .val (.ref r10), .val (.ref r19), .val (.int (pd &&& (3 : Int32))), .val (.ref b28), .val (.ref b30), .unset, .unset, .unset, .unset, .unset, .unset] [(.ref b32)])
  refine og_astore X36 44 #[.val (.int pa), .val (.int pb), .val (.int pc), .val (.int pd), .val (.ref r1), .val (.ref r10), .val (.ref r19), .val (.int (pd &&& (3 : Int32))), .val (.ref b28), .val (.ref b30), .val (.ref b32), .unset, .unset, .unset, .unset, .unset] at_42 rfl rfl rfl ?_
  refine og_aconstNull X36 45 at_44 rfl ?_
  refine og_astore X36 47 #[.val (.int pa), .val (.int pb), .val (.int pc), .val (.int pd), .val (.ref r1), .val (.ref r10), .val (.ref r19), .val (.int (pd &&& (3 : Int32))), .val (.ref b28), .val (.ref b30), .val (.ref b32), .val .null, .unset, .unset, .unset, .unset] at_45 rfl rfl rfl ?_
  refine og_aconstNull X36 48 at_47 rfl ?_
  refine og_astore X36 50 #[.val (.int pa), .val (.int pb), .val (.int pc), .val (.int pd), .val (.ref r1), .val (.ref r10), .val (.ref r19), .val (.int (pd &&& (3 : Int32))), .val (.ref b28), .val (.ref b30), .val (.ref b32), .val .null, .val .null, .unset, .unset, .unset] at_48 rfl rfl rfl ?_
  refine og_aconstNull X36 51 at_50 rfl ?_
  refine og_astore X36 53 #[.val (.int pa), .val (.int pb), .val (.int pc), .val (.int pd), .val (.ref r1), .val (.ref r10), .val (.ref r19), .val (.int (pd &&& (3 : Int32))), .val (.ref b28), .val (.ref b30), .val (.ref b32), .val .null, .val .null, .val .null, .unset, .unset] at_51 rfl rfl rfl ?_
  have f45 := f2.keep K10
  have f46 := f45.keep K19
  have f47 := f46.keep K28
  have f48 := f47.keep K30
  have f49 := f48.keep K32
  have f50 := f49.keep K36
  have f51 := f3.keep K10 nin0
  have f52 := f51.keep K19 nin0
  have f53 := f52.keep K28 nin0
  have f54 := f53.keep K30 nin0
  have f55 := f54.keep K32 nin0
  have f56 := f55.keep K36 (ninS (Nat.ne_of_lt (Nat.lt_of_lt_of_le (Nat.lt_of_lt_of_le f2.lt (Nat.le_trans (Nat.le_trans (Nat.le_trans K10.1 K19.1) K28.1) K30.1)) G32)) nin0)
  have f57 := f4.keep K10 nin0
  have f58 := f57.keep K19 nin0
  have f59 := f58.keep K28 nin0
  have f60 := f59.keep K30 nin0
  have f61 := f60.keep K32 nin0
  have f62 := f61.keep K36 (ninS (Nat.ne_of_lt (Nat.lt_of_lt_of_le (Nat.lt_of_lt_of_le f2.lt (Nat.le_trans (Nat.le_trans (Nat.le_trans K10.1 K19.1) K28.1) K30.1)) G32)) nin0)
  have f63 := f5.keep K10 nin0
  have f64 := f63.keep K19 nin0
  have f65 := f64.keep K28 nin0
  have f66 := f65.keep K30 nin0
  have f67 := f66.keep K32 nin0
  have f68 := f67.keep K36 (ninS (Nat.ne_of_lt (Nat.lt_of_lt_of_le (Nat.lt_of_lt_of_le f2.lt (Nat.le_trans (Nat.le_trans (Nat.le_trans K10.1 K19.1) K28.1) K30.1)) G32)) nin0)
  have f69 := f6.keep K10 nin0
  have f70 := f69.keep K19 nin0
  have f71 := f70.keep K28 nin0
  have f72 := f71.keep K30 nin0
  have f73 := f72.keep K32 nin0
  have f74 := f73.keep K36 (ninS (Nat.ne_of_lt (Nat.lt_of_lt_of_le (Nat.lt_of_lt_of_le f2.lt (Nat.le_trans (Nat.le_trans (Nat.le_trans K10.1 K19.1) K28.1) K30.1)) G32)) nin0)
  have f75 := f7.keep K10
  have f76 := f75.keep K19
  have f77 := f76.keep K28
  have f78 := f77.keep K30
  have f79 := f78.keep K32
  have f80 := f79.keep K36
  have f81 := f8.keep K10 nin0
  have f82 := f81.keep K19 nin0
  have f83 := f82.keep K28 nin0
  have f84 := f83.keep K30 nin0
  have f85 := f84.keep K32 nin0
  have f86 := f85.keep K36 (ninS (Nat.ne_of_lt (Nat.lt_of_lt_of_le (Nat.lt_of_lt_of_le f7.lt (Nat.le_trans (Nat.le_trans (Nat.le_trans K10.1 K19.1) K28.1) K30.1)) G32)) nin0)
  have f87 := f11.keep K19
  have f88 := f87.keep K28
  have f89 := f88.keep K30
  have f90 := f89.keep K32
  have f91 := f90.keep K36
  have f92 := f12.keep K19 nin0
  have f93 := f92.keep K28 nin0
  have f94 := f93.keep K30 nin0
  have f95 := f94.keep K32 nin0
  have f96 := f95.keep K36 (ninS (Nat.ne_of_lt (Nat.lt_of_lt_of_le (Nat.lt_of_lt_of_le f11.lt (Nat.le_trans (Nat.le_trans K19.1 K28.1) K30.1)) G32)) nin0)
  have f97 := f13.keep K19 nin0
  have f98 := f97.keep K28 nin0
  have f99 := f98.keep K30 nin0
  have f100 := f99.keep K32 nin0
  have f101 := f100.keep K36 (ninS (Nat.ne_of_lt (Nat.lt_of_lt_of_le (Nat.lt_of_lt_of_le f11.lt (Nat.le_trans (Nat.le_trans K19.1 K28.1) K30.1)) G32)) nin0)
  have f102 := f14.keep K19 nin0
  have f103 := f102.keep K28 nin0
  have f104 := f103.keep K30 nin0
  have f105 := f104.keep K32 nin0
  have f106 := f105.keep K36 (ninS (Nat.ne_of_lt (Nat.lt_of_lt_of_le (Nat.lt_of_lt_of_le f11.lt (Nat.le_trans (Nat.le_trans K19.1 K28.1) K30.1)) G32)) nin0)
  have f107 := f15.keep K19 nin0
  have f108 := f107.keep K28 nin0
  have f109 := f108.keep K30 nin0
  have f110 := f109.keep K32 nin0
  have f111 := f110.keep K36 (ninS (Nat.ne_of_lt (Nat.lt_of_lt_of_le (Nat.lt_of_lt_of_le f11.lt (Nat.le_trans (Nat.le_trans K19.1 K28.1) K30.1)) G32)) nin0)
  have f112 := f16.keep K19
  have f113 := f112.keep K28
  have f114 := f113.keep K30
  have f115 := f114.keep K32
  have f116 := f115.keep K36
  have f117 := f17.keep K19 nin0
  have f118 := f117.keep K28 nin0
  have f119 := f118.keep K30 nin0
  have f120 := f119.keep K32 nin0
  have f121 := f120.keep K36 (ninS (Nat.ne_of_lt (Nat.lt_of_lt_of_le (Nat.lt_of_lt_of_le f16.lt (Nat.le_trans (Nat.le_trans K19.1 K28.1) K30.1)) G32)) nin0)
  have f122 := f20.keep K28
  have f123 := f122.keep K30
  have f124 := f123.keep K32
  have f125 := f124.keep K36
  have f126 := f21.keep K28 nin0
  have f127 := f126.keep K30 nin0
  have f128 := f127.keep K32 nin0
  have f129 := f128.keep K36 (ninS (Nat.ne_of_lt (Nat.lt_of_lt_of_le (Nat.lt_of_lt_of_le f20.lt (Nat.le_trans K28.1 K30.1)) G32)) nin0)
  have f130 := f22.keep K28 nin0
  have f131 := f130.keep K30 nin0
  have f132 := f131.keep K32 nin0
  have f133 := f132.keep K36 (ninS (Nat.ne_of_lt (Nat.lt_of_lt_of_le (Nat.lt_of_lt_of_le f20.lt (Nat.le_trans K28.1 K30.1)) G32)) nin0)
  have f134 := f23.keep K28 nin0
  have f135 := f134.keep K30 nin0
  have f136 := f135.keep K32 nin0
  have f137 := f136.keep K36 (ninS (Nat.ne_of_lt (Nat.lt_of_lt_of_le (Nat.lt_of_lt_of_le f20.lt (Nat.le_trans K28.1 K30.1)) G32)) nin0)
  have f138 := f24.keep K28 nin0
  have f139 := f138.keep K30 nin0
  have f140 := f139.keep K32 nin0
  have f141 := f140.keep K36 (ninS (Nat.ne_of_lt (Nat.lt_of_lt_of_le (Nat.lt_of_lt_of_le f20.lt (Nat.le_trans K28.1 K30.1)) G32)) nin0)
  have f142 := f25.keep K28
  have f143 := f142.keep K30
  have f144 := f143.keep K32
  have f145 := f144.keep K36
  have f146 := f26.keep K28 nin0
  have f147 := f146.keep K30 nin0
  have f148 := f147.keep K32 nin0
  have f149 := f148.keep K36 (ninS (Nat.ne_of_lt (Nat.lt_of_lt_of_le (Nat.lt_of_lt_of_le f25.lt (Nat.le_trans K28.1 K30.1)) G32)) nin0)
  have f150 := f29.keep K30 nin0
  have f151 := f150.keep K32 nin0
  have f152 := f151.keep K36 (ninS (Nat.ne_of_lt (Nat.lt_of_lt_of_le (Nat.lt_of_lt_of_le U28 K30.1) G32)) nin0)
  have f153 := f31.keep K32 nin0
  have f154 := f153.keep K36 (ninS (Nat.ne_of_lt (Nat.lt_of_lt_of_le U30 G32)) nin0)
  have f155 := E32.keep K36
  rcases own_and3 pd with eQ | eQ | eQ | eQ
  · -- count 0
    rw [eQ]
    refine og_iload X36 55 at_53 rfl rfl ?_
    refine og_iconst X36 56 (1 : Int32) at_55 rfl rfl ?_
    refine og_icmpY X36 68 at_56 (XT.ii_lt_t (by decide)) (by decide) (by decide) ?_
    refine og_iload X36 70 at_68 rfl rfl ?_
    refine og_iconst X36 71 (2 : Int32) at_70 rfl rfl ?_
    refine og_icmpY X36 83 at_71 (XT.ii_lt_t (by decide)) (by decide) (by decide) ?_
    refine og_iload X36 85 at_83 rfl rfl ?_
    refine og_iconst X36 86 (3 : Int32) at_85 rfl rfl ?_
    refine og_icmpY X36 98 at_86 (XT.ii_lt_t (by decide)) (by decide) (by decide) ?_
    refine og_iconst X36 99 (0 : Int32) at_98 rfl rfl ?_
    refine og_istore X36 101 #[.val (.int pa), .val (.int pb), .val (.int pc), .val (.int pd), .val (.ref r1), .val (.ref r10), .val (.ref r19), .val (.int 0), .val (.ref b28), .val (.ref b30), .val (.ref b32), .val .null, .val .null, .val .null, .val (.int 0), .unset] at_99 rfl rfl ?_
    refine og_iload X36 103 at_101 rfl rfl ?_
    refine og_iconst X36 104 (1 : Int32) at_103 rfl rfl ?_
    refine og_icmpY X36 124 at_104 (XT.ii_lt_t (by decide)) (by decide) (by decide) ?_
    refine og_iload X36 126 at_124 rfl rfl ?_
    refine og_iconst X36 127 (2 : Int32) at_126 rfl rfl ?_
    refine og_icmpY X36 157 at_127 (XT.ii_lt_t (by decide)) (by decide) (by decide) ?_
    refine og_iload X36 159 at_157 rfl rfl ?_
    refine og_iconst X36 160 (3 : Int32) at_159 rfl rfl ?_
    refine og_icmpY X36 200 at_160 (XT.ii_lt_t (by decide)) (by decide) (by decide) ?_
    refine og_aload X36 202 at_200 rfl rfl rfl ?_
    refine own_virt X36 205 (a := b32) (argsL := []) (rest := []) at_202 f155 (fun _ hZ => notFace_of_selects (args := #[]) (mvT hZ (ow hw 125 rfl))) (rm18 l Z n0 h36 [] a0 hw hWd X36.old b32 (0 : Int32) f39 ) (ow hw 122 rfl) (ow hw 123 rfl) (ow hw 125 rfl) (ow hw 124 rfl) (ow hw 36 rfl) (ow hw 126 rfl) (by decide) (lenOf pd__28_29I rfl) rfl rfl rfl (W := 0) rfl (by decide) (by decide) (by decide) (by decide) all0 rfl ?_
    intro T156 h156 v156 X156 K156 hQ156
    obtain rfl := hQ156
    show OGo _ _ _ _ T156 (mkF m 205 #[.val (.int pa), .val (.int pb), .val (.int pc), .val (.int pd), .val (.ref r1), .val (.ref r10), .val (.ref r19), .val (.int 0), .val (.ref b28), .val (.ref b30), .val (.ref b32), .val .null, .val .null, .val .null, .val (.int 0), .unset] [(.int 0)])
    refine og_iload X156 207 at_205 rfl rfl ?_
    refine og_icmpY X156 212 at_207 (XT.ii_eq_t (by decide)) (by decide) (by decide) ?_
    refine og_iconst X156 213 (1 : Int32) at_212 rfl rfl ?_
    refine og_istore X156 215 #[.val (.int pa), .val (.int pb), .val (.int pc), .val (.int pd), .val (.ref r1), .val (.ref r10), .val (.ref r19), .val (.int 0), .val (.ref b28), .val (.ref b30), .val (.ref b32), .val .null, .val .null, .val .null, .val (.int 0), .val (.int 1)] at_213 rfl rfl ?_
    refine og_iload X156 217 at_215 rfl rfl ?_
    refine og_iconst X156 218 (1 : Int32) at_217 rfl rfl ?_
    refine og_icmpY X156 253 at_218 (XT.ii_lt_t (by decide)) (by decide) (by decide) ?_
    refine og_iload X156 255 at_253 rfl rfl ?_
    refine og_iconst X156 256 (2 : Int32) at_255 rfl rfl ?_
    refine og_icmpY X156 291 at_256 (XT.ii_lt_t (by decide)) (by decide) (by decide) ?_
    refine og_iload X156 293 at_291 rfl rfl ?_
    refine og_iconst X156 294 (3 : Int32) at_293 rfl rfl ?_
    refine og_icmpY X156 329 at_294 (XT.ii_lt_t (by decide)) (by decide) (by decide) ?_
    refine og_iload X156 331 at_329 rfl rfl ?_
    refine own_retZ X156 at_331 hret rfl (by decide) (by decide) ?_
    exact rfl
  · -- count 1
    rw [eQ]
    refine og_iload X36 55 at_53 rfl rfl ?_
    refine og_iconst X36 56 (1 : Int32) at_55 rfl rfl ?_
    refine og_icmpN X36 59 at_56 (XT.ii_lt_f (by decide)) rfl ?_
    refine og_aload X36 61 at_59 rfl rfl rfl ?_
    refine og_aload X36 63 at_61 rfl rfl rfl ?_
    have X157 := own_svA X36 f42 (by decide) (Nat.le_trans (own_n0 X32) ge_io36) (Nat.le_trans (Nat.le_trans (Nat.le_trans (Nat.le_trans (Nat.le_trans (Nat.le_trans K1.1 K10.1) K19.1) K28.1) K30.1) K32.1) ge_io36)
    have X158 := own_svA X157 f40 (by decide) (Nat.le_trans (own_n0 X32) ge_bk36) (Nat.le_trans (Nat.le_trans (Nat.le_trans (Nat.le_trans (Nat.le_trans (Nat.le_trans K1.1 K10.1) K19.1) K28.1) K30.1) K32.1) ge_bk36)
    have X159 := own_svN X158 rfl f50 (Nat.le_trans (own_n0 X0) ge_r1) ge_r1
    refine own_virt X159 66 (a := b32) (argsL := [(.ref r1)]) (rest := []) at_63 f155 (fun _ hZ => notFace_of_selects (args := #[]) (mvT hZ (ow hw 49 rfl))) (ro_0n l Z n0 h36 [] a0 hw hWd X159.old b32 bk36 io36 kb36 ki36 r1 t1 kt1 cs1 f155 f37 f38 f39 f40 f42 f41 f43 f44 f50 f56 f62 f68 f74 f80 f86 f9 (own_svb X36 (om 0 rfl)) (own_svb X157 (om 0 rfl)) (own_svb X158 (om 0 rfl)) (own_svb X159 (om 0 rfl))) (ow hw 46 rfl) (ow hw 47 rfl) (ow hw 49 rfl) (ow hw 48 rfl) (ow hw 36 rfl) (ow hw 50 rfl) (by decide) (lenOf pd__28Ljava_2flang_2fString_3b_29Lcom_2fexample_2fratable_2fratable_2fcore_2fPosted_3b rfl) rfl rfl rfl (W := 0) rfl (by decide) (by decide) (by decide) (by decide) (allS (om 3 rfl) (allS (om 2 rfl) (allS (om 1 rfl) (allS (om 0 rfl) all0)))) rfl ?_
    intro T160 h160 v160 X160 K160 hQ160
    obtain ⟨r160, rfl, ge_r160, f161, f162, f163, f164, f165, f166, f167, f168, f169, f170, f171, f172, f173⟩ := hQ160
    show OGo _ _ _ _ T160 (mkF m 66 #[.val (.int pa), .val (.int pb), .val (.int pc), .val (.int pd), .val (.ref r1), .val (.ref r10), .val (.ref r19), .val (.int 1), .val (.ref b28), .val (.ref b30), .val (.ref b32), .val .null, .val .null, .val .null, .unset, .unset] [(.ref r160)])
    refine og_astore X160 68 #[.val (.int pa), .val (.int pb), .val (.int pc), .val (.int pd), .val (.ref r1), .val (.ref r10), .val (.ref r19), .val (.int 1), .val (.ref b28), .val (.ref b30), .val (.ref b32), .val (.ref r160), .val .null, .val .null, .unset, .unset] at_66 rfl rfl rfl ?_
    refine og_iload X160 70 at_68 rfl rfl ?_
    refine og_iconst X160 71 (2 : Int32) at_70 rfl rfl ?_
    refine og_icmpY X160 83 at_71 (XT.ii_lt_t (by decide)) (by decide) (by decide) ?_
    refine og_iload X160 85 at_83 rfl rfl ?_
    refine og_iconst X160 86 (3 : Int32) at_85 rfl rfl ?_
    refine og_icmpY X160 98 at_86 (XT.ii_lt_t (by decide)) (by decide) (by decide) ?_
    refine og_iconst X160 99 (0 : Int32) at_98 rfl rfl ?_
    refine og_istore X160 101 #[.val (.int pa), .val (.int pb), .val (.int pc), .val (.int pd), .val (.ref r1), .val (.ref r10), .val (.ref r19), .val (.int 1), .val (.ref b28), .val (.ref b30), .val (.ref b32), .val (.ref r160), .val .null, .val .null, .val (.int 0), .unset] at_99 rfl rfl ?_
    refine og_iload X160 103 at_101 rfl rfl ?_
    refine og_iconst X160 104 (1 : Int32) at_103 rfl rfl ?_
    refine og_icmpN X160 107 at_104 (XT.ii_lt_f (by decide)) rfl ?_
    refine og_aload X160 109 at_107 rfl rfl rfl ?_
    refine og_iload X160 111 at_109 rfl rfl ?_
    refine og_aload X160 113 at_111 rfl rfl rfl ?_
    have f174 := f152.keep K160 (ninS (Nat.ne_of_lt (Nat.lt_of_lt_of_le (Nat.lt_of_lt_of_le U28 K30.1) G32)) (ninS (Nat.ne_of_lt (Nat.lt_of_lt_of_le (Nat.lt_of_lt_of_le U28 (Nat.le_trans K30.1 K32.1)) ge_io36)) (ninS (Nat.ne_of_lt (Nat.lt_of_lt_of_le (Nat.lt_of_lt_of_le U28 (Nat.le_trans K30.1 K32.1)) ge_bk36)) (ninS (Nat.ne_of_gt (Nat.lt_of_lt_of_le (Nat.lt_of_lt_of_le f2.lt (Nat.le_trans K10.1 K19.1)) G28)) nin0))))
    refine own_stR X160 114 at_113 f174 rfl rfl (own_sto f174 O28 (Ins.self f166)) (by decide) (by decide) (i := 0) (by decide) (Nat.le_of_ble_eq_true rfl) (om 5 rfl) rfl ?_
    intro T175 h175 X175 W175 K175 A175
    have f176 : Arv Z h175 b28 kb28 (.object "com/example/ratable/ratable/core/Posted") (3 : Int32) [(.ref r160), .null, .null] .null := A175
    refine og_aload X175 116 at_114 rfl rfl rfl ?_
    refine og_iload X175 118 at_116 rfl rfl ?_
    refine og_aload X175 120 at_118 rfl rfl rfl ?_
    have f177 := f154.keep K160 (ninS (Nat.ne_of_lt (Nat.lt_of_lt_of_le U30 G32)) (ninS (Nat.ne_of_lt (Nat.lt_of_lt_of_le (Nat.lt_of_lt_of_le U30 K32.1) ge_io36)) (ninS (Nat.ne_of_lt (Nat.lt_of_lt_of_le (Nat.lt_of_lt_of_le U30 K32.1) ge_bk36)) (ninS (Nat.ne_of_gt (Nat.lt_of_lt_of_le (Nat.lt_of_lt_of_le f2.lt (Nat.le_trans (Nat.le_trans K10.1 K19.1) K28.1)) G30)) nin0))))
    have f178 := f177.keep K175 (ninS (Nat.ne_of_gt (Nat.lt_of_lt_of_le U28 G30)) nin0)
    have f180 := f50.keep K160
    have f181 := f180.keep K175
    refine own_stR X175 121 at_120 f178 rfl rfl (own_sto f178 O30 (Ins.self f181)) (by decide) (by decide) (i := 0) (by decide) (Nat.le_of_ble_eq_true rfl) (om 4 rfl) rfl ?_
    intro T179 h179 X179 W179 K179 A179
    have f182 : Arv Z h179 b30 kb30 (.object "java/lang/String") (3 : Int32) [(.ref r1), .null, .null] .null := A179
    refine og_iinc X179 124 #[.val (.int pa), .val (.int pb), .val (.int pc), .val (.int pd), .val (.ref r1), .val (.ref r10), .val (.ref r19), .val (.int 1), .val (.ref b28), .val (.ref b30), .val (.ref b32), .val (.ref r160), .val .null, .val .null, .val (.int 1), .unset] at_121 rfl rfl rfl ?_
    refine og_iload X179 126 at_124 rfl rfl ?_
    refine og_iconst X179 127 (2 : Int32) at_126 rfl rfl ?_
    refine og_icmpY X179 157 at_127 (XT.ii_lt_t (by decide)) (by decide) (by decide) ?_
    refine og_iload X179 159 at_157 rfl rfl ?_
    refine og_iconst X179 160 (3 : Int32) at_159 rfl rfl ?_
    refine og_icmpY X179 200 at_160 (XT.ii_lt_t (by decide)) (by decide) (by decide) ?_
    refine og_aload X179 202 at_200 rfl rfl rfl ?_
    have f183 := f155.keep K160
    have f184 := f183.keep K175
    have f185 := f184.keep K179
    have f186 := f163.keep K175 (ninS (Nat.ne_of_gt (Nat.lt_of_lt_of_le (Nat.lt_of_lt_of_le U28 K30.1) G32)) nin0)
    have f187 := f186.keep K179 (ninS (Nat.ne_of_gt (Nat.lt_of_lt_of_le U30 G32)) nin0)
    refine own_virt X179 205 (a := b32) (argsL := []) (rest := []) at_202 f185 (fun _ hZ => notFace_of_selects (args := #[]) (mvT hZ (ow hw 125 rfl))) (rm18 l Z n0 h179 [] a0 hw hWd X179.old b32 (1 : Int32) f187 ) (ow hw 122 rfl) (ow hw 123 rfl) (ow hw 125 rfl) (ow hw 124 rfl) (ow hw 36 rfl) (ow hw 126 rfl) (by decide) (lenOf pd__28_29I rfl) rfl rfl rfl (W := 0) rfl (by decide) (by decide) (by decide) (by decide) all0 rfl ?_
    intro T188 h188 v188 X188 K188 hQ188
    obtain rfl := hQ188
    show OGo _ _ _ _ T188 (mkF m 205 #[.val (.int pa), .val (.int pb), .val (.int pc), .val (.int pd), .val (.ref r1), .val (.ref r10), .val (.ref r19), .val (.int 1), .val (.ref b28), .val (.ref b30), .val (.ref b32), .val (.ref r160), .val .null, .val .null, .val (.int 1), .unset] [(.int 1)])
    refine og_iload X188 207 at_205 rfl rfl ?_
    refine og_icmpY X188 212 at_207 (XT.ii_eq_t (by decide)) (by decide) (by decide) ?_
    refine og_iconst X188 213 (1 : Int32) at_212 rfl rfl ?_
    refine og_istore X188 215 #[.val (.int pa), .val (.int pb), .val (.int pc), .val (.int pd), .val (.ref r1), .val (.ref r10), .val (.ref r19), .val (.int 1), .val (.ref b28), .val (.ref b30), .val (.ref b32), .val (.ref r160), .val .null, .val .null, .val (.int 1), .val (.int 1)] at_213 rfl rfl ?_
    refine og_iload X188 217 at_215 rfl rfl ?_
    refine og_iconst X188 218 (1 : Int32) at_217 rfl rfl ?_
    refine og_icmpN X188 221 at_218 (XT.ii_lt_f (by decide)) rfl ?_
    refine og_iload X188 223 at_221 rfl rfl ?_
    refine og_ifN X188 226 at_223 (XT.i0_eq_f (by decide)) rfl ?_
    refine og_aload X188 228 at_226 rfl rfl rfl ?_
    refine og_iconst X188 229 (0 : Int32) at_228 rfl rfl ?_
    have f189 := f185.keep K188
    have f190 := f187.keep K188 nin0
    have f191 := f162.keep K175 (ninS (Nat.ne_of_gt (Nat.lt_of_lt_of_le (Nat.lt_of_lt_of_le U28 K30.1) G32)) nin0)
    have f192 := f191.keep K179 (ninS (Nat.ne_of_gt (Nat.lt_of_lt_of_le U30 G32)) nin0)
    have f193 := f192.keep K188 nin0
    have f194 := f165.keep K175 (ninS (Nat.ne_of_gt (Nat.lt_of_lt_of_le (Nat.lt_of_lt_of_le U28 (Nat.le_trans K30.1 K32.1)) ge_io36)) nin0)
    have f195 := f194.keep K179 (ninS (Nat.ne_of_gt (Nat.lt_of_lt_of_le (Nat.lt_of_lt_of_le U30 K32.1) ge_io36)) nin0)
    have f196 := f195.keep K188 nin0
    refine own_virt X188 232 (a := b32) (argsL := [(.int 0)]) (rest := []) at_229 f189 (fun _ hZ => notFace_of_selects (args := #[]) (mvT hZ (ow hw 130 rfl))) (rt_10 l Z n0 h188 [] a0 hw hWd X188.old b32 io36 ki36 r160 f190 f193 f196 ) (ow hw 127 rfl) (ow hw 128 rfl) (ow hw 130 rfl) (ow hw 129 rfl) (ow hw 36 rfl) (ow hw 131 rfl) (by decide) (lenOf pd__28I_29Lcom_2fexample_2fratable_2fratable_2fcore_2fPosted_3b rfl) rfl rfl rfl (W := 0) rfl (by decide) (by decide) (by decide) (by decide) all0 rfl ?_
    intro T197 h197 v197 X197 K197 hQ197
    obtain rfl := hQ197
    show OGo _ _ _ _ T197 (mkF m 232 #[.val (.int pa), .val (.int pb), .val (.int pc), .val (.int pd), .val (.ref r1), .val (.ref r10), .val (.ref r19), .val (.int 1), .val (.ref b28), .val (.ref b30), .val (.ref b32), .val (.ref r160), .val .null, .val .null, .val (.int 1), .val (.int 1)] [(.ref r160)])
    refine og_aload X197 234 at_232 rfl rfl rfl ?_
    refine og_iconst X197 235 (0 : Int32) at_234 rfl rfl ?_
    have f198 := f176.keep K179 (ninS (Nat.ne_of_lt (Nat.lt_of_lt_of_le U28 G30)) nin0)
    have f199 := f198.keep K188 nin0
    have f200 := f199.keep K197 nin0
    refine own_ldR X197 236 at_235 f200 rfl (by decide) (by decide) rfl rfl ?_
    refine og_aload X197 238 at_236 rfl rfl rfl ?_
    refine og_iconst X197 239 (0 : Int32) at_238 rfl rfl ?_
    have f201 := f182.keep K188 nin0
    have f202 := f201.keep K197 nin0
    refine own_ldR X197 240 at_239 f202 rfl (by decide) (by decide) rfl rfl ?_
    have f203 := f167.keep K175 (ninS (Nat.ne_of_gt (Nat.lt_of_lt_of_le (Nat.lt_of_lt_of_le U28 (Nat.le_trans (Nat.le_trans K30.1 K32.1) K36.1)) ge_r160)) nin0)
    have f204 := f203.keep K179 (ninS (Nat.ne_of_gt (Nat.lt_of_lt_of_le (Nat.lt_of_lt_of_le U30 (Nat.le_trans K32.1 K36.1)) ge_r160)) nin0)
    have f205 := f204.keep K188 nin0
    have f206 := f205.keep K197 nin0
    have f207 := f181.keep K179
    have f208 := f207.keep K188
    have f209 := f208.keep K197
    have f210 := f170.keep K175 (ninS (Nat.ne_of_lt (Nat.lt_of_lt_of_le (Nat.lt_of_lt_of_le f2.lt (Nat.le_trans K10.1 K19.1)) G28)) nin0)
    have f211 := f210.keep K179 (ninS (Nat.ne_of_lt (Nat.lt_of_lt_of_le (Nat.lt_of_lt_of_le f2.lt (Nat.le_trans (Nat.le_trans K10.1 K19.1) K28.1)) G30)) nin0)
    have f212 := f211.keep K188 nin0
    have f213 := f212.keep K197 nin0
    have f214 := f171.keep K175 (ninS (Nat.ne_of_lt (Nat.lt_of_lt_of_le (Nat.lt_of_lt_of_le f2.lt (Nat.le_trans K10.1 K19.1)) G28)) nin0)
    have f215 := f214.keep K179 (ninS (Nat.ne_of_lt (Nat.lt_of_lt_of_le (Nat.lt_of_lt_of_le f2.lt (Nat.le_trans (Nat.le_trans K10.1 K19.1) K28.1)) G30)) nin0)
    have f216 := f215.keep K188 nin0
    have f217 := f216.keep K197 nin0
    have f219 := f80.keep K160
    have f220 := f219.keep K175
    have f221 := f220.keep K179
    have f222 := f221.keep K188
    have f223 := f222.keep K197
    have f218 := f86.keep K160 (ninS (Nat.ne_of_lt (Nat.lt_of_lt_of_le (Nat.lt_of_lt_of_le f7.lt (Nat.le_trans (Nat.le_trans (Nat.le_trans K10.1 K19.1) K28.1) K30.1)) G32)) (ninS (Nat.ne_of_lt (Nat.lt_of_lt_of_le (Nat.lt_of_lt_of_le f7.lt (Nat.le_trans (Nat.le_trans (Nat.le_trans (Nat.le_trans K10.1 K19.1) K28.1) K30.1) K32.1)) ge_io36)) (ninS (Nat.ne_of_lt (Nat.lt_of_lt_of_le (Nat.lt_of_lt_of_le f7.lt (Nat.le_trans (Nat.le_trans (Nat.le_trans (Nat.le_trans K10.1 K19.1) K28.1) K30.1) K32.1)) ge_bk36)) (ninS (ne_exa f223 f209 (by decide)) nin0))))
    have f224 := f218.keep K175 (ninS (Nat.ne_of_lt (Nat.lt_of_lt_of_le (Nat.lt_of_lt_of_le f7.lt (Nat.le_trans K10.1 K19.1)) G28)) nin0)
    have f225 := f224.keep K179 (ninS (Nat.ne_of_lt (Nat.lt_of_lt_of_le (Nat.lt_of_lt_of_le f7.lt (Nat.le_trans (Nat.le_trans K10.1 K19.1) K28.1)) G30)) nin0)
    have f226 := f225.keep K188 nin0
    have f227 := f226.keep K197 nin0
    refine own_stat X197 243 (argsL := [(.ref r160), (.ref r160), (.ref r1)]) (rest := []) at_240 (rm22 l Z n0 h197 [] a0 hw hWd X197.old r160 r1 t1 kt1 cs1 f206 f209 f213 f217 f227 f9 ) (ow hw 140 rfl) (ow hw 141 rfl) (ow hw 2 rfl) (ow hw 142 rfl) (by decide) (lenOf pd__28Lcom_2fexample_2fratable_2fratable_2fcore_2fPosted_3bLcom_2fexample_2fratable_2fratable_2fcore_2fPosted_3bLjava_2flang_2fString_3b_29Z rfl) rfl rfl rfl (W := 0) rfl (by decide) (by decide) (by decide) (by decide) all0 rfl ?_
    intro T228 h228 v228 X228 K228 hQ228
    obtain rfl := hQ228
    show OGo _ _ _ _ T228 (mkF m 243 #[.val (.int pa), .val (.int pb), .val (.int pc), .val (.int pd), .val (.ref r1), .val (.ref r10), .val (.ref r19), .val (.int 1), .val (.ref b28), .val (.ref b30), .val (.ref b32), .val (.ref r160), .val .null, .val .null, .val (.int 1), .val (.int 1)] [(.int 1)])
    refine og_ifN X228 246 at_243 (XT.i0_eq_f (by decide)) rfl ?_
    refine og_iconst X228 247 (1 : Int32) at_246 rfl rfl ?_
    refine og_goto X228 251 at_247 (by decide) (by decide) ?_
    refine og_istore X228 253 #[.val (.int pa), .val (.int pb), .val (.int pc), .val (.int pd), .val (.ref r1), .val (.ref r10), .val (.ref r19), .val (.int 1), .val (.ref b28), .val (.ref b30), .val (.ref b32), .val (.ref r160), .val .null, .val .null, .val (.int 1), .val (.int 1)] at_251 rfl rfl ?_
    refine og_iload X228 255 at_253 rfl rfl ?_
    refine og_iconst X228 256 (2 : Int32) at_255 rfl rfl ?_
    refine og_icmpY X228 291 at_256 (XT.ii_lt_t (by decide)) (by decide) (by decide) ?_
    refine og_iload X228 293 at_291 rfl rfl ?_
    refine og_iconst X228 294 (3 : Int32) at_293 rfl rfl ?_
    refine og_icmpY X228 329 at_294 (XT.ii_lt_t (by decide)) (by decide) (by decide) ?_
    refine og_iload X228 331 at_329 rfl rfl ?_
    refine own_retZ X228 at_331 hret rfl (by decide) (by decide) ?_
    exact rfl
  · -- count 2
    rw [eQ]
    by_cases hc229 : cs1 = cs10
    · -- cs1 = cs10
      subst hc229
      refine og_iload X36 55 at_53 rfl rfl ?_
      refine og_iconst X36 56 (1 : Int32) at_55 rfl rfl ?_
      refine og_icmpN X36 59 at_56 (XT.ii_lt_f (by decide)) rfl ?_
      refine og_aload X36 61 at_59 rfl rfl rfl ?_
      refine og_aload X36 63 at_61 rfl rfl rfl ?_
      have X230 := own_svA X36 f42 (by decide) (Nat.le_trans (own_n0 X32) ge_io36) (Nat.le_trans (Nat.le_trans (Nat.le_trans (Nat.le_trans (Nat.le_trans (Nat.le_trans K1.1 K10.1) K19.1) K28.1) K30.1) K32.1) ge_io36)
      have X231 := own_svA X230 f40 (by decide) (Nat.le_trans (own_n0 X32) ge_bk36) (Nat.le_trans (Nat.le_trans (Nat.le_trans (Nat.le_trans (Nat.le_trans (Nat.le_trans K1.1 K10.1) K19.1) K28.1) K30.1) K32.1) ge_bk36)
      have X232 := own_svN X231 rfl f50 (Nat.le_trans (own_n0 X0) ge_r1) ge_r1
      refine own_virt X232 66 (a := b32) (argsL := [(.ref r1)]) (rest := []) at_63 f155 (fun _ hZ => notFace_of_selects (args := #[]) (mvT hZ (ow hw 49 rfl))) (ro_0n l Z n0 h36 [] a0 hw hWd X232.old b32 bk36 io36 kb36 ki36 r1 t1 kt1 cs1 f155 f37 f38 f39 f40 f42 f41 f43 f44 f50 f56 f62 f68 f74 f80 f86 f18 (own_svb X36 (om 0 rfl)) (own_svb X230 (om 0 rfl)) (own_svb X231 (om 0 rfl)) (own_svb X232 (om 0 rfl))) (ow hw 46 rfl) (ow hw 47 rfl) (ow hw 49 rfl) (ow hw 48 rfl) (ow hw 36 rfl) (ow hw 50 rfl) (by decide) (lenOf pd__28Ljava_2flang_2fString_3b_29Lcom_2fexample_2fratable_2fratable_2fcore_2fPosted_3b rfl) rfl rfl rfl (W := 0) rfl (by decide) (by decide) (by decide) (by decide) (allS (om 3 rfl) (allS (om 2 rfl) (allS (om 1 rfl) (allS (om 0 rfl) all0)))) rfl ?_
      intro T233 h233 v233 X233 K233 hQ233
      obtain ⟨r233, rfl, ge_r233, f234, f235, f236, f237, f238, f239, f240, f241, f242, f243, f244, f245, f246⟩ := hQ233
      show OGo _ _ _ _ T233 (mkF m 66 #[.val (.int pa), .val (.int pb), .val (.int pc), .val (.int pd), .val (.ref r1), .val (.ref r10), .val (.ref r19), .val (.int 2), .val (.ref b28), .val (.ref b30), .val (.ref b32), .val .null, .val .null, .val .null, .unset, .unset] [(.ref r233)])
      refine og_astore X233 68 #[.val (.int pa), .val (.int pb), .val (.int pc), .val (.int pd), .val (.ref r1), .val (.ref r10), .val (.ref r19), .val (.int 2), .val (.ref b28), .val (.ref b30), .val (.ref b32), .val (.ref r233), .val .null, .val .null, .unset, .unset] at_66 rfl rfl rfl ?_
      refine og_iload X233 70 at_68 rfl rfl ?_
      refine og_iconst X233 71 (2 : Int32) at_70 rfl rfl ?_
      refine og_icmpN X233 74 at_71 (XT.ii_lt_f (by decide)) rfl ?_
      refine og_aload X233 76 at_74 rfl rfl rfl ?_
      refine og_aload X233 78 at_76 rfl rfl rfl ?_
      have f247 := f155.keep K233
      have f248 := f50.keep K233
      have f250 := f80.keep K233
      have f249 := f86.keep K233 (ninS (Nat.ne_of_lt (Nat.lt_of_lt_of_le (Nat.lt_of_lt_of_le f7.lt (Nat.le_trans (Nat.le_trans (Nat.le_trans K10.1 K19.1) K28.1) K30.1)) G32)) (ninS (Nat.ne_of_lt (Nat.lt_of_lt_of_le (Nat.lt_of_lt_of_le f7.lt (Nat.le_trans (Nat.le_trans (Nat.le_trans (Nat.le_trans K10.1 K19.1) K28.1) K30.1) K32.1)) ge_io36)) (ninS (Nat.ne_of_lt (Nat.lt_of_lt_of_le (Nat.lt_of_lt_of_le f7.lt (Nat.le_trans (Nat.le_trans (Nat.le_trans (Nat.le_trans K10.1 K19.1) K28.1) K30.1) K32.1)) ge_bk36)) (ninS (ne_exa f250 f248 (by decide)) nin0))))
      have f251 := f91.keep K233
      have f252 := f96.keep K233 (ninS (Nat.ne_of_lt (Nat.lt_of_lt_of_le (Nat.lt_of_lt_of_le f11.lt (Nat.le_trans (Nat.le_trans K19.1 K28.1) K30.1)) G32)) (ninS (Nat.ne_of_lt (Nat.lt_of_lt_of_le (Nat.lt_of_lt_of_le f11.lt (Nat.le_trans (Nat.le_trans (Nat.le_trans K19.1 K28.1) K30.1) K32.1)) ge_io36)) (ninS (Nat.ne_of_lt (Nat.lt_of_lt_of_le (Nat.lt_of_lt_of_le f11.lt (Nat.le_trans (Nat.le_trans (Nat.le_trans K19.1 K28.1) K30.1) K32.1)) ge_bk36)) (ninS (Nat.ne_of_gt (Nat.lt_of_lt_of_le f2.lt ge_r10)) nin0))))
      have f253 := f101.keep K233 (ninS (Nat.ne_of_lt (Nat.lt_of_lt_of_le (Nat.lt_of_lt_of_le f11.lt (Nat.le_trans (Nat.le_trans K19.1 K28.1) K30.1)) G32)) (ninS (Nat.ne_of_lt (Nat.lt_of_lt_of_le (Nat.lt_of_lt_of_le f11.lt (Nat.le_trans (Nat.le_trans (Nat.le_trans K19.1 K28.1) K30.1) K32.1)) ge_io36)) (ninS (Nat.ne_of_lt (Nat.lt_of_lt_of_le (Nat.lt_of_lt_of_le f11.lt (Nat.le_trans (Nat.le_trans (Nat.le_trans K19.1 K28.1) K30.1) K32.1)) ge_bk36)) (ninS (Nat.ne_of_gt (Nat.lt_of_lt_of_le f2.lt ge_r10)) nin0))))
      have f254 := f106.keep K233 (ninS (Nat.ne_of_lt (Nat.lt_of_lt_of_le (Nat.lt_of_lt_of_le f11.lt (Nat.le_trans (Nat.le_trans K19.1 K28.1) K30.1)) G32)) (ninS (Nat.ne_of_lt (Nat.lt_of_lt_of_le (Nat.lt_of_lt_of_le f11.lt (Nat.le_trans (Nat.le_trans (Nat.le_trans K19.1 K28.1) K30.1) K32.1)) ge_io36)) (ninS (Nat.ne_of_lt (Nat.lt_of_lt_of_le (Nat.lt_of_lt_of_le f11.lt (Nat.le_trans (Nat.le_trans (Nat.le_trans K19.1 K28.1) K30.1) K32.1)) ge_bk36)) (ninS (Nat.ne_of_gt (Nat.lt_of_lt_of_le f2.lt ge_r10)) nin0))))
      have f255 := f111.keep K233 (ninS (Nat.ne_of_lt (Nat.lt_of_lt_of_le (Nat.lt_of_lt_of_le f11.lt (Nat.le_trans (Nat.le_trans K19.1 K28.1) K30.1)) G32)) (ninS (Nat.ne_of_lt (Nat.lt_of_lt_of_le (Nat.lt_of_lt_of_le f11.lt (Nat.le_trans (Nat.le_trans (Nat.le_trans K19.1 K28.1) K30.1) K32.1)) ge_io36)) (ninS (Nat.ne_of_lt (Nat.lt_of_lt_of_le (Nat.lt_of_lt_of_le f11.lt (Nat.le_trans (Nat.le_trans (Nat.le_trans K19.1 K28.1) K30.1) K32.1)) ge_bk36)) (ninS (Nat.ne_of_gt (Nat.lt_of_lt_of_le f2.lt ge_r10)) nin0))))
      have f256 := f116.keep K233
      have f257 := f121.keep K233 (ninS (Nat.ne_of_lt (Nat.lt_of_lt_of_le (Nat.lt_of_lt_of_le f16.lt (Nat.le_trans (Nat.le_trans K19.1 K28.1) K30.1)) G32)) (ninS (Nat.ne_of_lt (Nat.lt_of_lt_of_le (Nat.lt_of_lt_of_le f16.lt (Nat.le_trans (Nat.le_trans (Nat.le_trans K19.1 K28.1) K30.1) K32.1)) ge_io36)) (ninS (Nat.ne_of_lt (Nat.lt_of_lt_of_le (Nat.lt_of_lt_of_le f16.lt (Nat.le_trans (Nat.le_trans (Nat.le_trans K19.1 K28.1) K30.1) K32.1)) ge_bk36)) (ninS (ne_exa f256 f248 (by decide)) nin0))))
      have X258 := own_svN X233 rfl f251 (Nat.le_trans (own_n0 X1) ge_r10) (Nat.le_trans K1.1 ge_r10)
      refine own_virt X258 81 (a := b32) (argsL := [(.ref r10)]) (rest := []) at_78 f247 (fun _ hZ => notFace_of_selects (args := #[]) (mvT hZ (ow hw 49 rfl))) (ro_1f0 l Z n0 h233 [] a0 hw hWd X258.old b32 bk36 io36 kb36 ki36 r10 t10 kt10 r233 r1 t1 kt1 cs1 f247 f234 f235 f236 f237 f238 f41 f43 f44 f239 f240 f241 f242 f248 f243 f244 f249 f18 f251 f252 f253 f254 f255 f256 f257 f18 (Nat.ne_of_gt (Nat.lt_of_lt_of_le f2.lt ge_r10)) (own_svb X258 (om 0 rfl))) (ow hw 46 rfl) (ow hw 47 rfl) (ow hw 49 rfl) (ow hw 48 rfl) (ow hw 36 rfl) (ow hw 50 rfl) (by decide) (lenOf pd__28Ljava_2flang_2fString_3b_29Lcom_2fexample_2fratable_2fratable_2fcore_2fPosted_3b rfl) rfl rfl rfl (W := 0) rfl (by decide) (by decide) (by decide) (by decide) (allS (om 0 rfl) all0) rfl ?_
      intro T259 h259 v259 X259 K259 hQ259
      obtain ⟨rfl, f260, f261, f262, f263⟩ := hQ259
      show OGo _ _ _ _ T259 (mkF m 81 #[.val (.int pa), .val (.int pb), .val (.int pc), .val (.int pd), .val (.ref r1), .val (.ref r10), .val (.ref r19), .val (.int 2), .val (.ref b28), .val (.ref b30), .val (.ref b32), .val (.ref r233), .val .null, .val .null, .unset, .unset] [(.ref r233)])
      refine og_astore X259 83 #[.val (.int pa), .val (.int pb), .val (.int pc), .val (.int pd), .val (.ref r1), .val (.ref r10), .val (.ref r19), .val (.int 2), .val (.ref b28), .val (.ref b30), .val (.ref b32), .val (.ref r233), .val (.ref r233), .val .null, .unset, .unset] at_81 rfl rfl rfl ?_
      refine og_iload X259 85 at_83 rfl rfl ?_
      refine og_iconst X259 86 (3 : Int32) at_85 rfl rfl ?_
      refine og_icmpY X259 98 at_86 (XT.ii_lt_t (by decide)) (by decide) (by decide) ?_
      refine og_iconst X259 99 (0 : Int32) at_98 rfl rfl ?_
      refine og_istore X259 101 #[.val (.int pa), .val (.int pb), .val (.int pc), .val (.int pd), .val (.ref r1), .val (.ref r10), .val (.ref r19), .val (.int 2), .val (.ref b28), .val (.ref b30), .val (.ref b32), .val (.ref r233), .val (.ref r233), .val .null, .val (.int 0), .unset] at_99 rfl rfl ?_
      refine og_iload X259 103 at_101 rfl rfl ?_
      refine og_iconst X259 104 (1 : Int32) at_103 rfl rfl ?_
      refine og_icmpN X259 107 at_104 (XT.ii_lt_f (by decide)) rfl ?_
      refine og_aload X259 109 at_107 rfl rfl rfl ?_
      refine og_iload X259 111 at_109 rfl rfl ?_
      refine og_aload X259 113 at_111 rfl rfl rfl ?_
      have f264 := f152.keep K233 (ninS (Nat.ne_of_lt (Nat.lt_of_lt_of_le (Nat.lt_of_lt_of_le U28 K30.1) G32)) (ninS (Nat.ne_of_lt (Nat.lt_of_lt_of_le (Nat.lt_of_lt_of_le U28 (Nat.le_trans K30.1 K32.1)) ge_io36)) (ninS (Nat.ne_of_lt (Nat.lt_of_lt_of_le (Nat.lt_of_lt_of_le U28 (Nat.le_trans K30.1 K32.1)) ge_bk36)) (ninS (Nat.ne_of_gt (Nat.lt_of_lt_of_le (Nat.lt_of_lt_of_le f2.lt (Nat.le_trans K10.1 K19.1)) G28)) nin0))))
      have f265 := f264.keep K259 (ninS (Nat.ne_of_gt (Nat.lt_of_lt_of_le (Nat.lt_of_lt_of_le f11.lt K19.1) G28)) nin0)
      have f267 := f239.keep K259
      refine own_stR X259 114 at_113 f265 rfl rfl (own_sto f265 O28 (Ins.self f267)) (by decide) (by decide) (i := 0) (by decide) (Nat.le_of_ble_eq_true rfl) (om 6 rfl) rfl ?_
      intro T266 h266 X266 W266 K266 A266
      have f268 : Arv Z h266 b28 kb28 (.object "com/example/ratable/ratable/core/Posted") (3 : Int32) [(.ref r233), .null, .null] .null := A266
      refine og_aload X266 116 at_114 rfl rfl rfl ?_
      refine og_iload X266 118 at_116 rfl rfl ?_
      refine og_aload X266 120 at_118 rfl rfl rfl ?_
      have f269 := f154.keep K233 (ninS (Nat.ne_of_lt (Nat.lt_of_lt_of_le U30 G32)) (ninS (Nat.ne_of_lt (Nat.lt_of_lt_of_le (Nat.lt_of_lt_of_le U30 K32.1) ge_io36)) (ninS (Nat.ne_of_lt (Nat.lt_of_lt_of_le (Nat.lt_of_lt_of_le U30 K32.1) ge_bk36)) (ninS (Nat.ne_of_gt (Nat.lt_of_lt_of_le (Nat.lt_of_lt_of_le f2.lt (Nat.le_trans (Nat.le_trans K10.1 K19.1) K28.1)) G30)) nin0))))
      have f270 := f269.keep K259 (ninS (Nat.ne_of_gt (Nat.lt_of_lt_of_le (Nat.lt_of_lt_of_le f11.lt (Nat.le_trans K19.1 K28.1)) G30)) nin0)
      have f271 := f270.keep K266 (ninS (Nat.ne_of_gt (Nat.lt_of_lt_of_le U28 G30)) nin0)
      have f273 := f248.keep K259
      have f274 := f273.keep K266
      refine own_stR X266 121 at_120 f271 rfl rfl (own_sto f271 O30 (Ins.self f274)) (by decide) (by decide) (i := 0) (by decide) (Nat.le_of_ble_eq_true rfl) (om 5 rfl) rfl ?_
      intro T272 h272 X272 W272 K272 A272
      have f275 : Arv Z h272 b30 kb30 (.object "java/lang/String") (3 : Int32) [(.ref r1), .null, .null] .null := A272
      refine og_iinc X272 124 #[.val (.int pa), .val (.int pb), .val (.int pc), .val (.int pd), .val (.ref r1), .val (.ref r10), .val (.ref r19), .val (.int 2), .val (.ref b28), .val (.ref b30), .val (.ref b32), .val (.ref r233), .val (.ref r233), .val .null, .val (.int 1), .unset] at_121 rfl rfl rfl ?_
      refine og_iload X272 126 at_124 rfl rfl ?_
      refine og_iconst X272 127 (2 : Int32) at_126 rfl rfl ?_
      refine og_icmpN X272 130 at_127 (XT.ii_lt_f (by decide)) rfl ?_
      refine og_aload X272 132 at_130 rfl rfl rfl ?_
      refine og_aload X272 134 at_132 rfl rfl rfl ?_
      have f276 := f251.keep K259
      have f277 := f276.keep K266
      have f278 := f277.keep K272
      have f279 := f260.keep K266 (ninS (Nat.ne_of_lt (Nat.lt_of_lt_of_le (Nat.lt_of_lt_of_le f11.lt K19.1) G28)) nin0)
      have f280 := f279.keep K272 (ninS (Nat.ne_of_lt (Nat.lt_of_lt_of_le (Nat.lt_of_lt_of_le f11.lt (Nat.le_trans K19.1 K28.1)) G30)) nin0)
      have f281 := f261.keep K266 (ninS (Nat.ne_of_lt (Nat.lt_of_lt_of_le (Nat.lt_of_lt_of_le f11.lt K19.1) G28)) nin0)
      have f282 := f281.keep K272 (ninS (Nat.ne_of_lt (Nat.lt_of_lt_of_le (Nat.lt_of_lt_of_le f11.lt (Nat.le_trans K19.1 K28.1)) G30)) nin0)
      have f284 := f256.keep K259
      have f285 := f284.keep K266
      have f286 := f285.keep K272
      have f283 := f257.keep K259 (ninS (ne_exa f286 f278 (by decide)) nin0)
      have f287 := f283.keep K266 (ninS (Nat.ne_of_lt (Nat.lt_of_lt_of_le (Nat.lt_of_lt_of_le f16.lt K19.1) G28)) nin0)
      have f288 := f287.keep K272 (ninS (Nat.ne_of_lt (Nat.lt_of_lt_of_le (Nat.lt_of_lt_of_le f16.lt (Nat.le_trans K19.1 K28.1)) G30)) nin0)
      have f289 := own_rawS f278 f280 f282 f288 f18
      have f290 := f274.keep K272
      have f291 := f243.keep K259 (ninS (Nat.ne_of_lt (Nat.lt_of_lt_of_le f2.lt ge_r10)) nin0)
      have f292 := f291.keep K266 (ninS (Nat.ne_of_lt (Nat.lt_of_lt_of_le (Nat.lt_of_lt_of_le f2.lt (Nat.le_trans K10.1 K19.1)) G28)) nin0)
      have f293 := f292.keep K272 (ninS (Nat.ne_of_lt (Nat.lt_of_lt_of_le (Nat.lt_of_lt_of_le f2.lt (Nat.le_trans (Nat.le_trans K10.1 K19.1) K28.1)) G30)) nin0)
      have f294 := f244.keep K259 (ninS (Nat.ne_of_lt (Nat.lt_of_lt_of_le f2.lt ge_r10)) nin0)
      have f295 := f294.keep K266 (ninS (Nat.ne_of_lt (Nat.lt_of_lt_of_le (Nat.lt_of_lt_of_le f2.lt (Nat.le_trans K10.1 K19.1)) G28)) nin0)
      have f296 := f295.keep K272 (ninS (Nat.ne_of_lt (Nat.lt_of_lt_of_le (Nat.lt_of_lt_of_le f2.lt (Nat.le_trans (Nat.le_trans K10.1 K19.1) K28.1)) G30)) nin0)
      have f297 := f249.keep K259 (ninS (Nat.ne_of_lt (Nat.lt_of_lt_of_le f7.lt ge_r10)) nin0)
      have f298 := f297.keep K266 (ninS (Nat.ne_of_lt (Nat.lt_of_lt_of_le (Nat.lt_of_lt_of_le f7.lt (Nat.le_trans K10.1 K19.1)) G28)) nin0)
      have f299 := f298.keep K272 (ninS (Nat.ne_of_lt (Nat.lt_of_lt_of_le (Nat.lt_of_lt_of_le f7.lt (Nat.le_trans (Nat.le_trans K10.1 K19.1) K28.1)) G30)) nin0)
      have f300 := own_rawS f290 f293 f296 f299 f18
      refine own_strEq X272 137 at_134 f289 f300 (own_wE hw) (ow hw 14 rfl) hWd.2.1 hWd.2.2 (ow hw 144 rfl) (ow hw 145 rfl) (ow hw 147 rfl) (ow hw 146 rfl) rfl (W := 0) rfl (by decide) (by decide) (by decide) (by decide) rfl ?_
      intro T301 X302
      refine og_ifY X302 157 at_137 (XT.i0_ne_t (own_eqbS _)) (by decide) (by decide) ?_
      refine og_iload X302 159 at_157 rfl rfl ?_
      refine og_iconst X302 160 (3 : Int32) at_159 rfl rfl ?_
      refine og_icmpY X302 200 at_160 (XT.ii_lt_t (by decide)) (by decide) (by decide) ?_
      refine og_aload X302 202 at_200 rfl rfl rfl ?_
      have f303 := f247.keep K259
      have f304 := f303.keep K266
      have f305 := f304.keep K272
      have f306 := f236.keep K259 (ninS (Nat.ne_of_gt (Nat.lt_of_lt_of_le (Nat.lt_of_lt_of_le f11.lt (Nat.le_trans (Nat.le_trans K19.1 K28.1) K30.1)) G32)) nin0)
      have f307 := f306.keep K266 (ninS (Nat.ne_of_gt (Nat.lt_of_lt_of_le (Nat.lt_of_lt_of_le U28 K30.1) G32)) nin0)
      have f308 := f307.keep K272 (ninS (Nat.ne_of_gt (Nat.lt_of_lt_of_le U30 G32)) nin0)
      refine own_virt X302 205 (a := b32) (argsL := []) (rest := []) at_202 f305 (fun _ hZ => notFace_of_selects (args := #[]) (mvT hZ (ow hw 125 rfl))) (rm18 l Z n0 h272 [] a0 hw hWd X302.old b32 (1 : Int32) f308 ) (ow hw 122 rfl) (ow hw 123 rfl) (ow hw 125 rfl) (ow hw 124 rfl) (ow hw 36 rfl) (ow hw 126 rfl) (by decide) (lenOf pd__28_29I rfl) rfl rfl rfl (W := 0) rfl (by decide) (by decide) (by decide) (by decide) all0 rfl ?_
      intro T309 h309 v309 X309 K309 hQ309
      obtain rfl := hQ309
      show OGo _ _ _ _ T309 (mkF m 205 #[.val (.int pa), .val (.int pb), .val (.int pc), .val (.int pd), .val (.ref r1), .val (.ref r10), .val (.ref r19), .val (.int 2), .val (.ref b28), .val (.ref b30), .val (.ref b32), .val (.ref r233), .val (.ref r233), .val .null, .val (.int 1), .unset] [(.int 1)])
      refine og_iload X309 207 at_205 rfl rfl ?_
      refine og_icmpY X309 212 at_207 (XT.ii_eq_t (by decide)) (by decide) (by decide) ?_
      refine og_iconst X309 213 (1 : Int32) at_212 rfl rfl ?_
      refine og_istore X309 215 #[.val (.int pa), .val (.int pb), .val (.int pc), .val (.int pd), .val (.ref r1), .val (.ref r10), .val (.ref r19), .val (.int 2), .val (.ref b28), .val (.ref b30), .val (.ref b32), .val (.ref r233), .val (.ref r233), .val .null, .val (.int 1), .val (.int 1)] at_213 rfl rfl ?_
      refine og_iload X309 217 at_215 rfl rfl ?_
      refine og_iconst X309 218 (1 : Int32) at_217 rfl rfl ?_
      refine og_icmpN X309 221 at_218 (XT.ii_lt_f (by decide)) rfl ?_
      refine og_iload X309 223 at_221 rfl rfl ?_
      refine og_ifN X309 226 at_223 (XT.i0_eq_f (by decide)) rfl ?_
      refine og_aload X309 228 at_226 rfl rfl rfl ?_
      refine og_iconst X309 229 (0 : Int32) at_228 rfl rfl ?_
      have f310 := f305.keep K309
      have f311 := f308.keep K309 nin0
      have f312 := f235.keep K259 (ninS (Nat.ne_of_gt (Nat.lt_of_lt_of_le (Nat.lt_of_lt_of_le f11.lt (Nat.le_trans (Nat.le_trans K19.1 K28.1) K30.1)) G32)) nin0)
      have f313 := f312.keep K266 (ninS (Nat.ne_of_gt (Nat.lt_of_lt_of_le (Nat.lt_of_lt_of_le U28 K30.1) G32)) nin0)
      have f314 := f313.keep K272 (ninS (Nat.ne_of_gt (Nat.lt_of_lt_of_le U30 G32)) nin0)
      have f315 := f314.keep K309 nin0
      have f316 := f238.keep K259 (ninS (Nat.ne_of_gt (Nat.lt_of_lt_of_le (Nat.lt_of_lt_of_le f11.lt (Nat.le_trans (Nat.le_trans (Nat.le_trans K19.1 K28.1) K30.1) K32.1)) ge_io36)) nin0)
      have f317 := f316.keep K266 (ninS (Nat.ne_of_gt (Nat.lt_of_lt_of_le (Nat.lt_of_lt_of_le U28 (Nat.le_trans K30.1 K32.1)) ge_io36)) nin0)
      have f318 := f317.keep K272 (ninS (Nat.ne_of_gt (Nat.lt_of_lt_of_le (Nat.lt_of_lt_of_le U30 K32.1) ge_io36)) nin0)
      have f319 := f318.keep K309 nin0
      refine own_virt X309 232 (a := b32) (argsL := [(.int 0)]) (rest := []) at_229 f310 (fun _ hZ => notFace_of_selects (args := #[]) (mvT hZ (ow hw 130 rfl))) (rt_10 l Z n0 h309 [] a0 hw hWd X309.old b32 io36 ki36 r233 f311 f315 f319 ) (ow hw 127 rfl) (ow hw 128 rfl) (ow hw 130 rfl) (ow hw 129 rfl) (ow hw 36 rfl) (ow hw 131 rfl) (by decide) (lenOf pd__28I_29Lcom_2fexample_2fratable_2fratable_2fcore_2fPosted_3b rfl) rfl rfl rfl (W := 0) rfl (by decide) (by decide) (by decide) (by decide) all0 rfl ?_
      intro T320 h320 v320 X320 K320 hQ320
      obtain rfl := hQ320
      show OGo _ _ _ _ T320 (mkF m 232 #[.val (.int pa), .val (.int pb), .val (.int pc), .val (.int pd), .val (.ref r1), .val (.ref r10), .val (.ref r19), .val (.int 2), .val (.ref b28), .val (.ref b30), .val (.ref b32), .val (.ref r233), .val (.ref r233), .val .null, .val (.int 1), .val (.int 1)] [(.ref r233)])
      refine og_aload X320 234 at_232 rfl rfl rfl ?_
      refine og_iconst X320 235 (0 : Int32) at_234 rfl rfl ?_
      have f321 := f268.keep K272 (ninS (Nat.ne_of_lt (Nat.lt_of_lt_of_le U28 G30)) nin0)
      have f322 := f321.keep K309 nin0
      have f323 := f322.keep K320 nin0
      refine own_ldR X320 236 at_235 f323 rfl (by decide) (by decide) rfl rfl ?_
      refine og_aload X320 238 at_236 rfl rfl rfl ?_
      refine og_iconst X320 239 (0 : Int32) at_238 rfl rfl ?_
      have f324 := f275.keep K309 nin0
      have f325 := f324.keep K320 nin0
      refine own_ldR X320 240 at_239 f325 rfl (by decide) (by decide) rfl rfl ?_
      have f326 := f240.keep K259 (ninS (Nat.ne_of_gt (Nat.lt_of_lt_of_le (Nat.lt_of_lt_of_le f11.lt (Nat.le_trans (Nat.le_trans (Nat.le_trans (Nat.le_trans K19.1 K28.1) K30.1) K32.1) K36.1)) ge_r233)) nin0)
      have f327 := f326.keep K266 (ninS (Nat.ne_of_gt (Nat.lt_of_lt_of_le (Nat.lt_of_lt_of_le U28 (Nat.le_trans (Nat.le_trans K30.1 K32.1) K36.1)) ge_r233)) nin0)
      have f328 := f327.keep K272 (ninS (Nat.ne_of_gt (Nat.lt_of_lt_of_le (Nat.lt_of_lt_of_le U30 (Nat.le_trans K32.1 K36.1)) ge_r233)) nin0)
      have f329 := f328.keep K309 nin0
      have f330 := f329.keep K320 nin0
      have f331 := f290.keep K309
      have f332 := f331.keep K320
      have f333 := f293.keep K309 nin0
      have f334 := f333.keep K320 nin0
      have f335 := f296.keep K309 nin0
      have f336 := f335.keep K320 nin0
      have f337 := f299.keep K309 nin0
      have f338 := f337.keep K320 nin0
      refine own_stat X320 243 (argsL := [(.ref r233), (.ref r233), (.ref r1)]) (rest := []) at_240 (rm22 l Z n0 h320 [] a0 hw hWd X320.old r233 r1 t1 kt1 cs1 f330 f332 f334 f336 f338 f18 ) (ow hw 140 rfl) (ow hw 141 rfl) (ow hw 2 rfl) (ow hw 142 rfl) (by decide) (lenOf pd__28Lcom_2fexample_2fratable_2fratable_2fcore_2fPosted_3bLcom_2fexample_2fratable_2fratable_2fcore_2fPosted_3bLjava_2flang_2fString_3b_29Z rfl) rfl rfl rfl (W := 0) rfl (by decide) (by decide) (by decide) (by decide) all0 rfl ?_
      intro T339 h339 v339 X339 K339 hQ339
      obtain rfl := hQ339
      show OGo _ _ _ _ T339 (mkF m 243 #[.val (.int pa), .val (.int pb), .val (.int pc), .val (.int pd), .val (.ref r1), .val (.ref r10), .val (.ref r19), .val (.int 2), .val (.ref b28), .val (.ref b30), .val (.ref b32), .val (.ref r233), .val (.ref r233), .val .null, .val (.int 1), .val (.int 1)] [(.int 1)])
      refine og_ifN X339 246 at_243 (XT.i0_eq_f (by decide)) rfl ?_
      refine og_iconst X339 247 (1 : Int32) at_246 rfl rfl ?_
      refine og_goto X339 251 at_247 (by decide) (by decide) ?_
      refine og_istore X339 253 #[.val (.int pa), .val (.int pb), .val (.int pc), .val (.int pd), .val (.ref r1), .val (.ref r10), .val (.ref r19), .val (.int 2), .val (.ref b28), .val (.ref b30), .val (.ref b32), .val (.ref r233), .val (.ref r233), .val .null, .val (.int 1), .val (.int 1)] at_251 rfl rfl ?_
      refine og_iload X339 255 at_253 rfl rfl ?_
      refine og_iconst X339 256 (2 : Int32) at_255 rfl rfl ?_
      refine og_icmpY X339 291 at_256 (XT.ii_lt_t (by decide)) (by decide) (by decide) ?_
      refine og_iload X339 293 at_291 rfl rfl ?_
      refine og_iconst X339 294 (3 : Int32) at_293 rfl rfl ?_
      refine og_icmpY X339 329 at_294 (XT.ii_lt_t (by decide)) (by decide) (by decide) ?_
      refine og_iload X339 331 at_329 rfl rfl ?_
      refine own_retZ X339 at_331 hret rfl (by decide) (by decide) ?_
      exact rfl
    · -- not
      refine og_iload X36 55 at_53 rfl rfl ?_
      refine og_iconst X36 56 (1 : Int32) at_55 rfl rfl ?_
      refine og_icmpN X36 59 at_56 (XT.ii_lt_f (by decide)) rfl ?_
      refine og_aload X36 61 at_59 rfl rfl rfl ?_
      refine og_aload X36 63 at_61 rfl rfl rfl ?_
      have X340 := own_svA X36 f42 (by decide) (Nat.le_trans (own_n0 X32) ge_io36) (Nat.le_trans (Nat.le_trans (Nat.le_trans (Nat.le_trans (Nat.le_trans (Nat.le_trans K1.1 K10.1) K19.1) K28.1) K30.1) K32.1) ge_io36)
      have X341 := own_svA X340 f40 (by decide) (Nat.le_trans (own_n0 X32) ge_bk36) (Nat.le_trans (Nat.le_trans (Nat.le_trans (Nat.le_trans (Nat.le_trans (Nat.le_trans K1.1 K10.1) K19.1) K28.1) K30.1) K32.1) ge_bk36)
      have X342 := own_svN X341 rfl f50 (Nat.le_trans (own_n0 X0) ge_r1) ge_r1
      refine own_virt X342 66 (a := b32) (argsL := [(.ref r1)]) (rest := []) at_63 f155 (fun _ hZ => notFace_of_selects (args := #[]) (mvT hZ (ow hw 49 rfl))) (ro_0n l Z n0 h36 [] a0 hw hWd X342.old b32 bk36 io36 kb36 ki36 r1 t1 kt1 cs1 f155 f37 f38 f39 f40 f42 f41 f43 f44 f50 f56 f62 f68 f74 f80 f86 f9 (own_svb X36 (om 0 rfl)) (own_svb X340 (om 0 rfl)) (own_svb X341 (om 0 rfl)) (own_svb X342 (om 0 rfl))) (ow hw 46 rfl) (ow hw 47 rfl) (ow hw 49 rfl) (ow hw 48 rfl) (ow hw 36 rfl) (ow hw 50 rfl) (by decide) (lenOf pd__28Ljava_2flang_2fString_3b_29Lcom_2fexample_2fratable_2fratable_2fcore_2fPosted_3b rfl) rfl rfl rfl (W := 0) rfl (by decide) (by decide) (by decide) (by decide) (allS (om 3 rfl) (allS (om 2 rfl) (allS (om 1 rfl) (allS (om 0 rfl) all0)))) rfl ?_
      intro T343 h343 v343 X343 K343 hQ343
      obtain ⟨r343, rfl, ge_r343, f344, f345, f346, f347, f348, f349, f350, f351, f352, f353, f354, f355, f356⟩ := hQ343
      show OGo _ _ _ _ T343 (mkF m 66 #[.val (.int pa), .val (.int pb), .val (.int pc), .val (.int pd), .val (.ref r1), .val (.ref r10), .val (.ref r19), .val (.int 2), .val (.ref b28), .val (.ref b30), .val (.ref b32), .val .null, .val .null, .val .null, .unset, .unset] [(.ref r343)])
      refine og_astore X343 68 #[.val (.int pa), .val (.int pb), .val (.int pc), .val (.int pd), .val (.ref r1), .val (.ref r10), .val (.ref r19), .val (.int 2), .val (.ref b28), .val (.ref b30), .val (.ref b32), .val (.ref r343), .val .null, .val .null, .unset, .unset] at_66 rfl rfl rfl ?_
      refine og_iload X343 70 at_68 rfl rfl ?_
      refine og_iconst X343 71 (2 : Int32) at_70 rfl rfl ?_
      refine og_icmpN X343 74 at_71 (XT.ii_lt_f (by decide)) rfl ?_
      refine og_aload X343 76 at_74 rfl rfl rfl ?_
      refine og_aload X343 78 at_76 rfl rfl rfl ?_
      have f357 := f155.keep K343
      have f358 := f50.keep K343
      have f360 := f80.keep K343
      have f359 := f86.keep K343 (ninS (Nat.ne_of_lt (Nat.lt_of_lt_of_le (Nat.lt_of_lt_of_le f7.lt (Nat.le_trans (Nat.le_trans (Nat.le_trans K10.1 K19.1) K28.1) K30.1)) G32)) (ninS (Nat.ne_of_lt (Nat.lt_of_lt_of_le (Nat.lt_of_lt_of_le f7.lt (Nat.le_trans (Nat.le_trans (Nat.le_trans (Nat.le_trans K10.1 K19.1) K28.1) K30.1) K32.1)) ge_io36)) (ninS (Nat.ne_of_lt (Nat.lt_of_lt_of_le (Nat.lt_of_lt_of_le f7.lt (Nat.le_trans (Nat.le_trans (Nat.le_trans (Nat.le_trans K10.1 K19.1) K28.1) K30.1) K32.1)) ge_bk36)) (ninS (ne_exa f360 f358 (by decide)) nin0))))
      have f361 := f91.keep K343
      have f362 := f96.keep K343 (ninS (Nat.ne_of_lt (Nat.lt_of_lt_of_le (Nat.lt_of_lt_of_le f11.lt (Nat.le_trans (Nat.le_trans K19.1 K28.1) K30.1)) G32)) (ninS (Nat.ne_of_lt (Nat.lt_of_lt_of_le (Nat.lt_of_lt_of_le f11.lt (Nat.le_trans (Nat.le_trans (Nat.le_trans K19.1 K28.1) K30.1) K32.1)) ge_io36)) (ninS (Nat.ne_of_lt (Nat.lt_of_lt_of_le (Nat.lt_of_lt_of_le f11.lt (Nat.le_trans (Nat.le_trans (Nat.le_trans K19.1 K28.1) K30.1) K32.1)) ge_bk36)) (ninS (Nat.ne_of_gt (Nat.lt_of_lt_of_le f2.lt ge_r10)) nin0))))
      have f363 := f101.keep K343 (ninS (Nat.ne_of_lt (Nat.lt_of_lt_of_le (Nat.lt_of_lt_of_le f11.lt (Nat.le_trans (Nat.le_trans K19.1 K28.1) K30.1)) G32)) (ninS (Nat.ne_of_lt (Nat.lt_of_lt_of_le (Nat.lt_of_lt_of_le f11.lt (Nat.le_trans (Nat.le_trans (Nat.le_trans K19.1 K28.1) K30.1) K32.1)) ge_io36)) (ninS (Nat.ne_of_lt (Nat.lt_of_lt_of_le (Nat.lt_of_lt_of_le f11.lt (Nat.le_trans (Nat.le_trans (Nat.le_trans K19.1 K28.1) K30.1) K32.1)) ge_bk36)) (ninS (Nat.ne_of_gt (Nat.lt_of_lt_of_le f2.lt ge_r10)) nin0))))
      have f364 := f106.keep K343 (ninS (Nat.ne_of_lt (Nat.lt_of_lt_of_le (Nat.lt_of_lt_of_le f11.lt (Nat.le_trans (Nat.le_trans K19.1 K28.1) K30.1)) G32)) (ninS (Nat.ne_of_lt (Nat.lt_of_lt_of_le (Nat.lt_of_lt_of_le f11.lt (Nat.le_trans (Nat.le_trans (Nat.le_trans K19.1 K28.1) K30.1) K32.1)) ge_io36)) (ninS (Nat.ne_of_lt (Nat.lt_of_lt_of_le (Nat.lt_of_lt_of_le f11.lt (Nat.le_trans (Nat.le_trans (Nat.le_trans K19.1 K28.1) K30.1) K32.1)) ge_bk36)) (ninS (Nat.ne_of_gt (Nat.lt_of_lt_of_le f2.lt ge_r10)) nin0))))
      have f365 := f111.keep K343 (ninS (Nat.ne_of_lt (Nat.lt_of_lt_of_le (Nat.lt_of_lt_of_le f11.lt (Nat.le_trans (Nat.le_trans K19.1 K28.1) K30.1)) G32)) (ninS (Nat.ne_of_lt (Nat.lt_of_lt_of_le (Nat.lt_of_lt_of_le f11.lt (Nat.le_trans (Nat.le_trans (Nat.le_trans K19.1 K28.1) K30.1) K32.1)) ge_io36)) (ninS (Nat.ne_of_lt (Nat.lt_of_lt_of_le (Nat.lt_of_lt_of_le f11.lt (Nat.le_trans (Nat.le_trans (Nat.le_trans K19.1 K28.1) K30.1) K32.1)) ge_bk36)) (ninS (Nat.ne_of_gt (Nat.lt_of_lt_of_le f2.lt ge_r10)) nin0))))
      have f366 := f116.keep K343
      have f367 := f121.keep K343 (ninS (Nat.ne_of_lt (Nat.lt_of_lt_of_le (Nat.lt_of_lt_of_le f16.lt (Nat.le_trans (Nat.le_trans K19.1 K28.1) K30.1)) G32)) (ninS (Nat.ne_of_lt (Nat.lt_of_lt_of_le (Nat.lt_of_lt_of_le f16.lt (Nat.le_trans (Nat.le_trans (Nat.le_trans K19.1 K28.1) K30.1) K32.1)) ge_io36)) (ninS (Nat.ne_of_lt (Nat.lt_of_lt_of_le (Nat.lt_of_lt_of_le f16.lt (Nat.le_trans (Nat.le_trans (Nat.le_trans K19.1 K28.1) K30.1) K32.1)) ge_bk36)) (ninS (ne_exa f366 f358 (by decide)) nin0))))
      have X368 := own_svN X343 rfl f361 (Nat.le_trans (own_n0 X1) ge_r10) (Nat.le_trans K1.1 ge_r10)
      refine own_virt X368 81 (a := b32) (argsL := [(.ref r10)]) (rest := []) at_78 f357 (fun _ hZ => notFace_of_selects (args := #[]) (mvT hZ (ow hw 49 rfl))) (ro_1n l Z n0 h343 [] a0 hw hWd X368.old b32 bk36 io36 kb36 ki36 r10 t10 kt10 cs10 r343 r1 t1 kt1 cs1 f357 f344 f345 f346 f347 f348 f41 f43 f44 f349 f350 f351 f352 f358 f353 f354 f359 f9 f361 f362 f363 f364 f365 f366 f367 f18 (Nat.ne_of_gt (Nat.lt_of_lt_of_le f2.lt ge_r10)) hc229 (own_svb X343 (om 3 rfl)) (own_svb X343 (om 2 rfl)) (own_svb X343 (om 1 rfl)) (own_svb X368 (om 0 rfl))) (ow hw 46 rfl) (ow hw 47 rfl) (ow hw 49 rfl) (ow hw 48 rfl) (ow hw 36 rfl) (ow hw 50 rfl) (by decide) (lenOf pd__28Ljava_2flang_2fString_3b_29Lcom_2fexample_2fratable_2fratable_2fcore_2fPosted_3b rfl) rfl rfl rfl (W := 0) rfl (by decide) (by decide) (by decide) (by decide) (allS (om 4 rfl) (allS (om 3 rfl) (allS (om 2 rfl) (allS (om 0 rfl) all0)))) rfl ?_
      intro T369 h369 v369 X369 K369 hQ369
      obtain ⟨r369, rfl, ge_r369, f370, f371, f372, f373, f374, f375, f376, f377, f378, f379, f380, f381, f382⟩ := hQ369
      show OGo _ _ _ _ T369 (mkF m 81 #[.val (.int pa), .val (.int pb), .val (.int pc), .val (.int pd), .val (.ref r1), .val (.ref r10), .val (.ref r19), .val (.int 2), .val (.ref b28), .val (.ref b30), .val (.ref b32), .val (.ref r343), .val .null, .val .null, .unset, .unset] [(.ref r369)])
      refine og_astore X369 83 #[.val (.int pa), .val (.int pb), .val (.int pc), .val (.int pd), .val (.ref r1), .val (.ref r10), .val (.ref r19), .val (.int 2), .val (.ref b28), .val (.ref b30), .val (.ref b32), .val (.ref r343), .val (.ref r369), .val .null, .unset, .unset] at_81 rfl rfl rfl ?_
      refine og_iload X369 85 at_83 rfl rfl ?_
      refine og_iconst X369 86 (3 : Int32) at_85 rfl rfl ?_
      refine og_icmpY X369 98 at_86 (XT.ii_lt_t (by decide)) (by decide) (by decide) ?_
      refine og_iconst X369 99 (0 : Int32) at_98 rfl rfl ?_
      refine og_istore X369 101 #[.val (.int pa), .val (.int pb), .val (.int pc), .val (.int pd), .val (.ref r1), .val (.ref r10), .val (.ref r19), .val (.int 2), .val (.ref b28), .val (.ref b30), .val (.ref b32), .val (.ref r343), .val (.ref r369), .val .null, .val (.int 0), .unset] at_99 rfl rfl ?_
      refine og_iload X369 103 at_101 rfl rfl ?_
      refine og_iconst X369 104 (1 : Int32) at_103 rfl rfl ?_
      refine og_icmpN X369 107 at_104 (XT.ii_lt_f (by decide)) rfl ?_
      refine og_aload X369 109 at_107 rfl rfl rfl ?_
      refine og_iload X369 111 at_109 rfl rfl ?_
      refine og_aload X369 113 at_111 rfl rfl rfl ?_
      have f383 := f152.keep K343 (ninS (Nat.ne_of_lt (Nat.lt_of_lt_of_le (Nat.lt_of_lt_of_le U28 K30.1) G32)) (ninS (Nat.ne_of_lt (Nat.lt_of_lt_of_le (Nat.lt_of_lt_of_le U28 (Nat.le_trans K30.1 K32.1)) ge_io36)) (ninS (Nat.ne_of_lt (Nat.lt_of_lt_of_le (Nat.lt_of_lt_of_le U28 (Nat.le_trans K30.1 K32.1)) ge_bk36)) (ninS (Nat.ne_of_gt (Nat.lt_of_lt_of_le (Nat.lt_of_lt_of_le f2.lt (Nat.le_trans K10.1 K19.1)) G28)) nin0))))
      have f384 := f383.keep K369 (ninS (Nat.ne_of_lt (Nat.lt_of_lt_of_le (Nat.lt_of_lt_of_le U28 K30.1) G32)) (ninS (Nat.ne_of_lt (Nat.lt_of_lt_of_le (Nat.lt_of_lt_of_le U28 (Nat.le_trans K30.1 K32.1)) ge_io36)) (ninS (Nat.ne_of_lt (Nat.lt_of_lt_of_le (Nat.lt_of_lt_of_le U28 (Nat.le_trans K30.1 K32.1)) ge_bk36)) (ninS (Nat.ne_of_gt (Nat.lt_of_lt_of_le (Nat.lt_of_lt_of_le f11.lt K19.1) G28)) nin0))))
      have f386 := f349.keep K369
      refine own_stR X369 114 at_113 f384 rfl rfl (own_sto f384 O28 (Ins.self f386)) (by decide) (by decide) (i := 0) (by decide) (Nat.le_of_ble_eq_true rfl) (om 6 rfl) rfl ?_
      intro T385 h385 X385 W385 K385 A385
      have f387 : Arv Z h385 b28 kb28 (.object "com/example/ratable/ratable/core/Posted") (3 : Int32) [(.ref r343), .null, .null] .null := A385
      refine og_aload X385 116 at_114 rfl rfl rfl ?_
      refine og_iload X385 118 at_116 rfl rfl ?_
      refine og_aload X385 120 at_118 rfl rfl rfl ?_
      have f388 := f154.keep K343 (ninS (Nat.ne_of_lt (Nat.lt_of_lt_of_le U30 G32)) (ninS (Nat.ne_of_lt (Nat.lt_of_lt_of_le (Nat.lt_of_lt_of_le U30 K32.1) ge_io36)) (ninS (Nat.ne_of_lt (Nat.lt_of_lt_of_le (Nat.lt_of_lt_of_le U30 K32.1) ge_bk36)) (ninS (Nat.ne_of_gt (Nat.lt_of_lt_of_le (Nat.lt_of_lt_of_le f2.lt (Nat.le_trans (Nat.le_trans K10.1 K19.1) K28.1)) G30)) nin0))))
      have f389 := f388.keep K369 (ninS (Nat.ne_of_lt (Nat.lt_of_lt_of_le U30 G32)) (ninS (Nat.ne_of_lt (Nat.lt_of_lt_of_le (Nat.lt_of_lt_of_le U30 K32.1) ge_io36)) (ninS (Nat.ne_of_lt (Nat.lt_of_lt_of_le (Nat.lt_of_lt_of_le U30 K32.1) ge_bk36)) (ninS (Nat.ne_of_gt (Nat.lt_of_lt_of_le (Nat.lt_of_lt_of_le f11.lt (Nat.le_trans K19.1 K28.1)) G30)) nin0))))
      have f390 := f389.keep K385 (ninS (Nat.ne_of_gt (Nat.lt_of_lt_of_le U28 G30)) nin0)
      have f392 := f358.keep K369
      have f393 := f392.keep K385
      refine own_stR X385 121 at_120 f390 rfl rfl (own_sto f390 O30 (Ins.self f393)) (by decide) (by decide) (i := 0) (by decide) (Nat.le_of_ble_eq_true rfl) (om 5 rfl) rfl ?_
      intro T391 h391 X391 W391 K391 A391
      have f394 : Arv Z h391 b30 kb30 (.object "java/lang/String") (3 : Int32) [(.ref r1), .null, .null] .null := A391
      refine og_iinc X391 124 #[.val (.int pa), .val (.int pb), .val (.int pc), .val (.int pd), .val (.ref r1), .val (.ref r10), .val (.ref r19), .val (.int 2), .val (.ref b28), .val (.ref b30), .val (.ref b32), .val (.ref r343), .val (.ref r369), .val .null, .val (.int 1), .unset] at_121 rfl rfl rfl ?_
      refine og_iload X391 126 at_124 rfl rfl ?_
      refine og_iconst X391 127 (2 : Int32) at_126 rfl rfl ?_
      refine og_icmpN X391 130 at_127 (XT.ii_lt_f (by decide)) rfl ?_
      refine og_aload X391 132 at_130 rfl rfl rfl ?_
      refine og_aload X391 134 at_132 rfl rfl rfl ?_
      have f395 := f361.keep K369
      have f396 := f395.keep K385
      have f397 := f396.keep K391
      have f398 := f379.keep K385 (ninS (Nat.ne_of_lt (Nat.lt_of_lt_of_le (Nat.lt_of_lt_of_le f11.lt K19.1) G28)) nin0)
      have f399 := f398.keep K391 (ninS (Nat.ne_of_lt (Nat.lt_of_lt_of_le (Nat.lt_of_lt_of_le f11.lt (Nat.le_trans K19.1 K28.1)) G30)) nin0)
      have f400 := f380.keep K385 (ninS (Nat.ne_of_lt (Nat.lt_of_lt_of_le (Nat.lt_of_lt_of_le f11.lt K19.1) G28)) nin0)
      have f401 := f400.keep K391 (ninS (Nat.ne_of_lt (Nat.lt_of_lt_of_le (Nat.lt_of_lt_of_le f11.lt (Nat.le_trans K19.1 K28.1)) G30)) nin0)
      have f403 := f366.keep K369
      have f404 := f403.keep K385
      have f405 := f404.keep K391
      have f402 := f367.keep K369 (ninS (Nat.ne_of_lt (Nat.lt_of_lt_of_le (Nat.lt_of_lt_of_le f16.lt (Nat.le_trans (Nat.le_trans K19.1 K28.1) K30.1)) G32)) (ninS (Nat.ne_of_lt (Nat.lt_of_lt_of_le (Nat.lt_of_lt_of_le f16.lt (Nat.le_trans (Nat.le_trans (Nat.le_trans K19.1 K28.1) K30.1) K32.1)) ge_io36)) (ninS (Nat.ne_of_lt (Nat.lt_of_lt_of_le (Nat.lt_of_lt_of_le f16.lt (Nat.le_trans (Nat.le_trans (Nat.le_trans K19.1 K28.1) K30.1) K32.1)) ge_bk36)) (ninS (ne_exa f405 f397 (by decide)) nin0))))
      have f406 := f402.keep K385 (ninS (Nat.ne_of_lt (Nat.lt_of_lt_of_le (Nat.lt_of_lt_of_le f16.lt K19.1) G28)) nin0)
      have f407 := f406.keep K391 (ninS (Nat.ne_of_lt (Nat.lt_of_lt_of_le (Nat.lt_of_lt_of_le f16.lt (Nat.le_trans K19.1 K28.1)) G30)) nin0)
      have f408 := own_rawS f397 f399 f401 f407 f18
      have f409 := f393.keep K391
      have f410 := f353.keep K369 (ninS (Nat.ne_of_lt (Nat.lt_of_lt_of_le (Nat.lt_of_lt_of_le f2.lt (Nat.le_trans (Nat.le_trans (Nat.le_trans K10.1 K19.1) K28.1) K30.1)) G32)) (ninS (Nat.ne_of_lt (Nat.lt_of_lt_of_le (Nat.lt_of_lt_of_le f2.lt (Nat.le_trans (Nat.le_trans (Nat.le_trans (Nat.le_trans K10.1 K19.1) K28.1) K30.1) K32.1)) ge_io36)) (ninS (Nat.ne_of_lt (Nat.lt_of_lt_of_le (Nat.lt_of_lt_of_le f2.lt (Nat.le_trans (Nat.le_trans (Nat.le_trans (Nat.le_trans K10.1 K19.1) K28.1) K30.1) K32.1)) ge_bk36)) (ninS (Nat.ne_of_lt (Nat.lt_of_lt_of_le f2.lt ge_r10)) nin0))))
      have f411 := f410.keep K385 (ninS (Nat.ne_of_lt (Nat.lt_of_lt_of_le (Nat.lt_of_lt_of_le f2.lt (Nat.le_trans K10.1 K19.1)) G28)) nin0)
      have f412 := f411.keep K391 (ninS (Nat.ne_of_lt (Nat.lt_of_lt_of_le (Nat.lt_of_lt_of_le f2.lt (Nat.le_trans (Nat.le_trans K10.1 K19.1) K28.1)) G30)) nin0)
      have f413 := f354.keep K369 (ninS (Nat.ne_of_lt (Nat.lt_of_lt_of_le (Nat.lt_of_lt_of_le f2.lt (Nat.le_trans (Nat.le_trans (Nat.le_trans K10.1 K19.1) K28.1) K30.1)) G32)) (ninS (Nat.ne_of_lt (Nat.lt_of_lt_of_le (Nat.lt_of_lt_of_le f2.lt (Nat.le_trans (Nat.le_trans (Nat.le_trans (Nat.le_trans K10.1 K19.1) K28.1) K30.1) K32.1)) ge_io36)) (ninS (Nat.ne_of_lt (Nat.lt_of_lt_of_le (Nat.lt_of_lt_of_le f2.lt (Nat.le_trans (Nat.le_trans (Nat.le_trans (Nat.le_trans K10.1 K19.1) K28.1) K30.1) K32.1)) ge_bk36)) (ninS (Nat.ne_of_lt (Nat.lt_of_lt_of_le f2.lt ge_r10)) nin0))))
      have f414 := f413.keep K385 (ninS (Nat.ne_of_lt (Nat.lt_of_lt_of_le (Nat.lt_of_lt_of_le f2.lt (Nat.le_trans K10.1 K19.1)) G28)) nin0)
      have f415 := f414.keep K391 (ninS (Nat.ne_of_lt (Nat.lt_of_lt_of_le (Nat.lt_of_lt_of_le f2.lt (Nat.le_trans (Nat.le_trans K10.1 K19.1) K28.1)) G30)) nin0)
      have f416 := f359.keep K369 (ninS (Nat.ne_of_lt (Nat.lt_of_lt_of_le (Nat.lt_of_lt_of_le f7.lt (Nat.le_trans (Nat.le_trans (Nat.le_trans K10.1 K19.1) K28.1) K30.1)) G32)) (ninS (Nat.ne_of_lt (Nat.lt_of_lt_of_le (Nat.lt_of_lt_of_le f7.lt (Nat.le_trans (Nat.le_trans (Nat.le_trans (Nat.le_trans K10.1 K19.1) K28.1) K30.1) K32.1)) ge_io36)) (ninS (Nat.ne_of_lt (Nat.lt_of_lt_of_le (Nat.lt_of_lt_of_le f7.lt (Nat.le_trans (Nat.le_trans (Nat.le_trans (Nat.le_trans K10.1 K19.1) K28.1) K30.1) K32.1)) ge_bk36)) (ninS (Nat.ne_of_lt (Nat.lt_of_lt_of_le f7.lt ge_r10)) nin0))))
      have f417 := f416.keep K385 (ninS (Nat.ne_of_lt (Nat.lt_of_lt_of_le (Nat.lt_of_lt_of_le f7.lt (Nat.le_trans K10.1 K19.1)) G28)) nin0)
      have f418 := f417.keep K391 (ninS (Nat.ne_of_lt (Nat.lt_of_lt_of_le (Nat.lt_of_lt_of_le f7.lt (Nat.le_trans (Nat.le_trans K10.1 K19.1) K28.1)) G30)) nin0)
      have f419 := own_rawS f409 f412 f415 f418 f9
      refine own_strEq X391 137 at_134 f408 f419 (own_wE hw) (ow hw 14 rfl) hWd.2.1 hWd.2.2 (ow hw 144 rfl) (ow hw 145 rfl) (ow hw 147 rfl) (ow hw 146 rfl) rfl (W := 0) rfl (by decide) (by decide) (by decide) (by decide) rfl ?_
      intro T420 X421
      refine og_ifN X421 140 at_137 (XT.i0_ne_f (own_eqb0.mpr (fun q => hc229 q.symm))) rfl ?_
      refine og_aload X421 142 at_140 rfl rfl rfl ?_
      refine og_iload X421 144 at_142 rfl rfl ?_
      refine og_aload X421 146 at_144 rfl rfl rfl ?_
      have f422 := f387.keep K391 (ninS (Nat.ne_of_lt (Nat.lt_of_lt_of_le U28 G30)) nin0)
      have f424 := f375.keep K385
      have f425 := f424.keep K391
      refine own_stR X421 147 at_146 f422 rfl rfl (own_sto f422 O28 (Ins.self f425)) (by decide) (by decide) (i := 1) (by decide) (Nat.le_of_ble_eq_true rfl) (om 6 rfl) rfl ?_
      intro T423 h423 X423 W423 K423 A423
      have f426 : Arv Z h423 b28 kb28 (.object "com/example/ratable/ratable/core/Posted") (3 : Int32) [(.ref r343), (.ref r369), .null] .null := A423
      refine og_aload X423 149 at_147 rfl rfl rfl ?_
      refine og_iload X423 151 at_149 rfl rfl ?_
      refine og_aload X423 153 at_151 rfl rfl rfl ?_
      have f427 := f394.keep K423 (ninS (Nat.ne_of_gt (Nat.lt_of_lt_of_le U28 G30)) nin0)
      have f429 := f397.keep K423
      refine own_stR X423 154 at_153 f427 rfl rfl (own_sto f427 O30 (Ins.self f429)) (by decide) (by decide) (i := 1) (by decide) (Nat.le_of_ble_eq_true rfl) (om 5 rfl) rfl ?_
      intro T428 h428 X428 W428 K428 A428
      have f430 : Arv Z h428 b30 kb30 (.object "java/lang/String") (3 : Int32) [(.ref r1), (.ref r10), .null] .null := A428
      refine og_iinc X428 157 #[.val (.int pa), .val (.int pb), .val (.int pc), .val (.int pd), .val (.ref r1), .val (.ref r10), .val (.ref r19), .val (.int 2), .val (.ref b28), .val (.ref b30), .val (.ref b32), .val (.ref r343), .val (.ref r369), .val .null, .val (.int 2), .unset] at_154 rfl rfl rfl ?_
      refine og_iload X428 159 at_157 rfl rfl ?_
      refine og_iconst X428 160 (3 : Int32) at_159 rfl rfl ?_
      refine og_icmpY X428 200 at_160 (XT.ii_lt_t (by decide)) (by decide) (by decide) ?_
      refine og_aload X428 202 at_200 rfl rfl rfl ?_
      have f431 := f357.keep K369
      have f432 := f431.keep K385
      have f433 := f432.keep K391
      have f434 := f433.keep K423
      have f435 := f434.keep K428
      have f436 := f372.keep K385 (ninS (Nat.ne_of_gt (Nat.lt_of_lt_of_le (Nat.lt_of_lt_of_le U28 K30.1) G32)) nin0)
      have f437 := f436.keep K391 (ninS (Nat.ne_of_gt (Nat.lt_of_lt_of_le U30 G32)) nin0)
      have f438 := f437.keep K423 (ninS (Nat.ne_of_gt (Nat.lt_of_lt_of_le (Nat.lt_of_lt_of_le U28 K30.1) G32)) nin0)
      have f439 := f438.keep K428 (ninS (Nat.ne_of_gt (Nat.lt_of_lt_of_le U30 G32)) nin0)
      refine own_virt X428 205 (a := b32) (argsL := []) (rest := []) at_202 f435 (fun _ hZ => notFace_of_selects (args := #[]) (mvT hZ (ow hw 125 rfl))) (rm18 l Z n0 h428 [] a0 hw hWd X428.old b32 (2 : Int32) f439 ) (ow hw 122 rfl) (ow hw 123 rfl) (ow hw 125 rfl) (ow hw 124 rfl) (ow hw 36 rfl) (ow hw 126 rfl) (by decide) (lenOf pd__28_29I rfl) rfl rfl rfl (W := 0) rfl (by decide) (by decide) (by decide) (by decide) all0 rfl ?_
      intro T440 h440 v440 X440 K440 hQ440
      obtain rfl := hQ440
      show OGo _ _ _ _ T440 (mkF m 205 #[.val (.int pa), .val (.int pb), .val (.int pc), .val (.int pd), .val (.ref r1), .val (.ref r10), .val (.ref r19), .val (.int 2), .val (.ref b28), .val (.ref b30), .val (.ref b32), .val (.ref r343), .val (.ref r369), .val .null, .val (.int 2), .unset] [(.int 2)])
      refine og_iload X440 207 at_205 rfl rfl ?_
      refine og_icmpY X440 212 at_207 (XT.ii_eq_t (by decide)) (by decide) (by decide) ?_
      refine og_iconst X440 213 (1 : Int32) at_212 rfl rfl ?_
      refine og_istore X440 215 #[.val (.int pa), .val (.int pb), .val (.int pc), .val (.int pd), .val (.ref r1), .val (.ref r10), .val (.ref r19), .val (.int 2), .val (.ref b28), .val (.ref b30), .val (.ref b32), .val (.ref r343), .val (.ref r369), .val .null, .val (.int 2), .val (.int 1)] at_213 rfl rfl ?_
      refine og_iload X440 217 at_215 rfl rfl ?_
      refine og_iconst X440 218 (1 : Int32) at_217 rfl rfl ?_
      refine og_icmpN X440 221 at_218 (XT.ii_lt_f (by decide)) rfl ?_
      refine og_iload X440 223 at_221 rfl rfl ?_
      refine og_ifN X440 226 at_223 (XT.i0_eq_f (by decide)) rfl ?_
      refine og_aload X440 228 at_226 rfl rfl rfl ?_
      refine og_iconst X440 229 (0 : Int32) at_228 rfl rfl ?_
      have f441 := f435.keep K440
      have f442 := f439.keep K440 nin0
      have f443 := f371.keep K385 (ninS (Nat.ne_of_gt (Nat.lt_of_lt_of_le (Nat.lt_of_lt_of_le U28 K30.1) G32)) nin0)
      have f444 := f443.keep K391 (ninS (Nat.ne_of_gt (Nat.lt_of_lt_of_le U30 G32)) nin0)
      have f445 := f444.keep K423 (ninS (Nat.ne_of_gt (Nat.lt_of_lt_of_le (Nat.lt_of_lt_of_le U28 K30.1) G32)) nin0)
      have f446 := f445.keep K428 (ninS (Nat.ne_of_gt (Nat.lt_of_lt_of_le U30 G32)) nin0)
      have f447 := f446.keep K440 nin0
      have f448 := f374.keep K385 (ninS (Nat.ne_of_gt (Nat.lt_of_lt_of_le (Nat.lt_of_lt_of_le U28 (Nat.le_trans K30.1 K32.1)) ge_io36)) nin0)
      have f449 := f448.keep K391 (ninS (Nat.ne_of_gt (Nat.lt_of_lt_of_le (Nat.lt_of_lt_of_le U30 K32.1) ge_io36)) nin0)
      have f450 := f449.keep K423 (ninS (Nat.ne_of_gt (Nat.lt_of_lt_of_le (Nat.lt_of_lt_of_le U28 (Nat.le_trans K30.1 K32.1)) ge_io36)) nin0)
      have f451 := f450.keep K428 (ninS (Nat.ne_of_gt (Nat.lt_of_lt_of_le (Nat.lt_of_lt_of_le U30 K32.1) ge_io36)) nin0)
      have f452 := f451.keep K440 nin0
      refine own_virt X440 232 (a := b32) (argsL := [(.int 0)]) (rest := []) at_229 f441 (fun _ hZ => notFace_of_selects (args := #[]) (mvT hZ (ow hw 130 rfl))) (rt_20 l Z n0 h440 [] a0 hw hWd X440.old b32 io36 ki36 r343 r369 f442 f447 f452 ) (ow hw 127 rfl) (ow hw 128 rfl) (ow hw 130 rfl) (ow hw 129 rfl) (ow hw 36 rfl) (ow hw 131 rfl) (by decide) (lenOf pd__28I_29Lcom_2fexample_2fratable_2fratable_2fcore_2fPosted_3b rfl) rfl rfl rfl (W := 0) rfl (by decide) (by decide) (by decide) (by decide) all0 rfl ?_
      intro T453 h453 v453 X453 K453 hQ453
      obtain rfl := hQ453
      show OGo _ _ _ _ T453 (mkF m 232 #[.val (.int pa), .val (.int pb), .val (.int pc), .val (.int pd), .val (.ref r1), .val (.ref r10), .val (.ref r19), .val (.int 2), .val (.ref b28), .val (.ref b30), .val (.ref b32), .val (.ref r343), .val (.ref r369), .val .null, .val (.int 2), .val (.int 1)] [(.ref r343)])
      refine og_aload X453 234 at_232 rfl rfl rfl ?_
      refine og_iconst X453 235 (0 : Int32) at_234 rfl rfl ?_
      have f454 := f426.keep K428 (ninS (Nat.ne_of_lt (Nat.lt_of_lt_of_le U28 G30)) nin0)
      have f455 := f454.keep K440 nin0
      have f456 := f455.keep K453 nin0
      refine own_ldR X453 236 at_235 f456 rfl (by decide) (by decide) rfl rfl ?_
      refine og_aload X453 238 at_236 rfl rfl rfl ?_
      refine og_iconst X453 239 (0 : Int32) at_238 rfl rfl ?_
      have f457 := f430.keep K440 nin0
      have f458 := f457.keep K453 nin0
      refine own_ldR X453 240 at_239 f458 rfl (by decide) (by decide) rfl rfl ?_
      have f459 := f350.keep K369 (ninS (Nat.ne_of_gt (Nat.lt_of_lt_of_le (Nat.lt_of_lt_of_le U32 K36.1) ge_r343)) (ninS (Nat.ne_of_gt (Nat.lt_of_lt_of_le f42.lt ge_r343)) (ninS (Nat.ne_of_gt (Nat.lt_of_lt_of_le f40.lt ge_r343)) (ninS (Nat.ne_of_gt (Nat.lt_of_lt_of_le (Nat.lt_of_lt_of_le f11.lt (Nat.le_trans (Nat.le_trans (Nat.le_trans (Nat.le_trans K19.1 K28.1) K30.1) K32.1) K36.1)) ge_r343)) nin0))))
      have f460 := f459.keep K385 (ninS (Nat.ne_of_gt (Nat.lt_of_lt_of_le (Nat.lt_of_lt_of_le U28 (Nat.le_trans (Nat.le_trans K30.1 K32.1) K36.1)) ge_r343)) nin0)
      have f461 := f460.keep K391 (ninS (Nat.ne_of_gt (Nat.lt_of_lt_of_le (Nat.lt_of_lt_of_le U30 (Nat.le_trans K32.1 K36.1)) ge_r343)) nin0)
      have f462 := f461.keep K423 (ninS (Nat.ne_of_gt (Nat.lt_of_lt_of_le (Nat.lt_of_lt_of_le U28 (Nat.le_trans (Nat.le_trans K30.1 K32.1) K36.1)) ge_r343)) nin0)
      have f463 := f462.keep K428 (ninS (Nat.ne_of_gt (Nat.lt_of_lt_of_le (Nat.lt_of_lt_of_le U30 (Nat.le_trans K32.1 K36.1)) ge_r343)) nin0)
      have f464 := f463.keep K440 nin0
      have f465 := f464.keep K453 nin0
      have f466 := f409.keep K423
      have f467 := f466.keep K428
      have f468 := f467.keep K440
      have f469 := f468.keep K453
      have f470 := f412.keep K423 (ninS (Nat.ne_of_lt (Nat.lt_of_lt_of_le (Nat.lt_of_lt_of_le f2.lt (Nat.le_trans K10.1 K19.1)) G28)) nin0)
      have f471 := f470.keep K428 (ninS (Nat.ne_of_lt (Nat.lt_of_lt_of_le (Nat.lt_of_lt_of_le f2.lt (Nat.le_trans (Nat.le_trans K10.1 K19.1) K28.1)) G30)) nin0)
      have f472 := f471.keep K440 nin0
      have f473 := f472.keep K453 nin0
      have f474 := f415.keep K423 (ninS (Nat.ne_of_lt (Nat.lt_of_lt_of_le (Nat.lt_of_lt_of_le f2.lt (Nat.le_trans K10.1 K19.1)) G28)) nin0)
      have f475 := f474.keep K428 (ninS (Nat.ne_of_lt (Nat.lt_of_lt_of_le (Nat.lt_of_lt_of_le f2.lt (Nat.le_trans (Nat.le_trans K10.1 K19.1) K28.1)) G30)) nin0)
      have f476 := f475.keep K440 nin0
      have f477 := f476.keep K453 nin0
      have f478 := f418.keep K423 (ninS (Nat.ne_of_lt (Nat.lt_of_lt_of_le (Nat.lt_of_lt_of_le f7.lt (Nat.le_trans K10.1 K19.1)) G28)) nin0)
      have f479 := f478.keep K428 (ninS (Nat.ne_of_lt (Nat.lt_of_lt_of_le (Nat.lt_of_lt_of_le f7.lt (Nat.le_trans (Nat.le_trans K10.1 K19.1) K28.1)) G30)) nin0)
      have f480 := f479.keep K440 nin0
      have f481 := f480.keep K453 nin0
      refine own_stat X453 243 (argsL := [(.ref r343), (.ref r343), (.ref r1)]) (rest := []) at_240 (rm22 l Z n0 h453 [] a0 hw hWd X453.old r343 r1 t1 kt1 cs1 f465 f469 f473 f477 f481 f9 ) (ow hw 140 rfl) (ow hw 141 rfl) (ow hw 2 rfl) (ow hw 142 rfl) (by decide) (lenOf pd__28Lcom_2fexample_2fratable_2fratable_2fcore_2fPosted_3bLcom_2fexample_2fratable_2fratable_2fcore_2fPosted_3bLjava_2flang_2fString_3b_29Z rfl) rfl rfl rfl (W := 0) rfl (by decide) (by decide) (by decide) (by decide) all0 rfl ?_
      intro T482 h482 v482 X482 K482 hQ482
      obtain rfl := hQ482
      show OGo _ _ _ _ T482 (mkF m 243 #[.val (.int pa), .val (.int pb), .val (.int pc), .val (.int pd), .val (.ref r1), .val (.ref r10), .val (.ref r19), .val (.int 2), .val (.ref b28), .val (.ref b30), .val (.ref b32), .val (.ref r343), .val (.ref r369), .val .null, .val (.int 2), .val (.int 1)] [(.int 1)])
      refine og_ifN X482 246 at_243 (XT.i0_eq_f (by decide)) rfl ?_
      refine og_iconst X482 247 (1 : Int32) at_246 rfl rfl ?_
      refine og_goto X482 251 at_247 (by decide) (by decide) ?_
      refine og_istore X482 253 #[.val (.int pa), .val (.int pb), .val (.int pc), .val (.int pd), .val (.ref r1), .val (.ref r10), .val (.ref r19), .val (.int 2), .val (.ref b28), .val (.ref b30), .val (.ref b32), .val (.ref r343), .val (.ref r369), .val .null, .val (.int 2), .val (.int 1)] at_251 rfl rfl ?_
      refine og_iload X482 255 at_253 rfl rfl ?_
      refine og_iconst X482 256 (2 : Int32) at_255 rfl rfl ?_
      refine og_icmpN X482 259 at_256 (XT.ii_lt_f (by decide)) rfl ?_
      refine og_iload X482 261 at_259 rfl rfl ?_
      refine og_ifN X482 264 at_261 (XT.i0_eq_f (by decide)) rfl ?_
      refine og_aload X482 266 at_264 rfl rfl rfl ?_
      refine og_iconst X482 267 (1 : Int32) at_266 rfl rfl ?_
      have f483 := f441.keep K453
      have f484 := f483.keep K482
      have f485 := f442.keep K453 nin0
      have f486 := f485.keep K482 nin0
      have f487 := f447.keep K453 nin0
      have f488 := f487.keep K482 nin0
      have f489 := f452.keep K453 nin0
      have f490 := f489.keep K482 nin0
      refine own_virt X482 270 (a := b32) (argsL := [(.int 1)]) (rest := []) at_267 f484 (fun _ hZ => notFace_of_selects (args := #[]) (mvT hZ (ow hw 130 rfl))) (rt_21 l Z n0 h482 [] a0 hw hWd X482.old b32 io36 ki36 r343 r369 f486 f488 f490 ) (ow hw 127 rfl) (ow hw 128 rfl) (ow hw 130 rfl) (ow hw 129 rfl) (ow hw 36 rfl) (ow hw 131 rfl) (by decide) (lenOf pd__28I_29Lcom_2fexample_2fratable_2fratable_2fcore_2fPosted_3b rfl) rfl rfl rfl (W := 0) rfl (by decide) (by decide) (by decide) (by decide) all0 rfl ?_
      intro T491 h491 v491 X491 K491 hQ491
      obtain rfl := hQ491
      show OGo _ _ _ _ T491 (mkF m 270 #[.val (.int pa), .val (.int pb), .val (.int pc), .val (.int pd), .val (.ref r1), .val (.ref r10), .val (.ref r19), .val (.int 2), .val (.ref b28), .val (.ref b30), .val (.ref b32), .val (.ref r343), .val (.ref r369), .val .null, .val (.int 2), .val (.int 1)] [(.ref r369)])
      refine og_aload X491 272 at_270 rfl rfl rfl ?_
      refine og_iconst X491 273 (1 : Int32) at_272 rfl rfl ?_
      have f492 := f456.keep K482 nin0
      have f493 := f492.keep K491 nin0
      refine own_ldR X491 274 at_273 f493 rfl (by decide) (by decide) rfl rfl ?_
      refine og_aload X491 276 at_274 rfl rfl rfl ?_
      refine og_iconst X491 277 (1 : Int32) at_276 rfl rfl ?_
      have f494 := f458.keep K482 nin0
      have f495 := f494.keep K491 nin0
      refine own_ldR X491 278 at_277 f495 rfl (by decide) (by decide) rfl rfl ?_
      have f496 := f376.keep K385 (ninS (Nat.ne_of_gt (Nat.lt_of_lt_of_le (Nat.lt_of_lt_of_le U28 (Nat.le_trans (Nat.le_trans (Nat.le_trans K30.1 K32.1) K36.1) K343.1)) ge_r369)) nin0)
      have f497 := f496.keep K391 (ninS (Nat.ne_of_gt (Nat.lt_of_lt_of_le (Nat.lt_of_lt_of_le U30 (Nat.le_trans (Nat.le_trans K32.1 K36.1) K343.1)) ge_r369)) nin0)
      have f498 := f497.keep K423 (ninS (Nat.ne_of_gt (Nat.lt_of_lt_of_le (Nat.lt_of_lt_of_le U28 (Nat.le_trans (Nat.le_trans (Nat.le_trans K30.1 K32.1) K36.1) K343.1)) ge_r369)) nin0)
      have f499 := f498.keep K428 (ninS (Nat.ne_of_gt (Nat.lt_of_lt_of_le (Nat.lt_of_lt_of_le U30 (Nat.le_trans (Nat.le_trans K32.1 K36.1) K343.1)) ge_r369)) nin0)
      have f500 := f499.keep K440 nin0
      have f501 := f500.keep K453 nin0
      have f502 := f501.keep K482 nin0
      have f503 := f502.keep K491 nin0
      have f504 := f429.keep K428
      have f505 := f504.keep K440
      have f506 := f505.keep K453
      have f507 := f506.keep K482
      have f508 := f507.keep K491
      have f509 := f399.keep K423 (ninS (Nat.ne_of_lt (Nat.lt_of_lt_of_le (Nat.lt_of_lt_of_le f11.lt K19.1) G28)) nin0)
      have f510 := f509.keep K428 (ninS (Nat.ne_of_lt (Nat.lt_of_lt_of_le (Nat.lt_of_lt_of_le f11.lt (Nat.le_trans K19.1 K28.1)) G30)) nin0)
      have f511 := f510.keep K440 nin0
      have f512 := f511.keep K453 nin0
      have f513 := f512.keep K482 nin0
      have f514 := f513.keep K491 nin0
      have f515 := f401.keep K423 (ninS (Nat.ne_of_lt (Nat.lt_of_lt_of_le (Nat.lt_of_lt_of_le f11.lt K19.1) G28)) nin0)
      have f516 := f515.keep K428 (ninS (Nat.ne_of_lt (Nat.lt_of_lt_of_le (Nat.lt_of_lt_of_le f11.lt (Nat.le_trans K19.1 K28.1)) G30)) nin0)
      have f517 := f516.keep K440 nin0
      have f518 := f517.keep K453 nin0
      have f519 := f518.keep K482 nin0
      have f520 := f519.keep K491 nin0
      have f521 := f407.keep K423 (ninS (Nat.ne_of_lt (Nat.lt_of_lt_of_le (Nat.lt_of_lt_of_le f16.lt K19.1) G28)) nin0)
      have f522 := f521.keep K428 (ninS (Nat.ne_of_lt (Nat.lt_of_lt_of_le (Nat.lt_of_lt_of_le f16.lt (Nat.le_trans K19.1 K28.1)) G30)) nin0)
      have f523 := f522.keep K440 nin0
      have f524 := f523.keep K453 nin0
      have f525 := f524.keep K482 nin0
      have f526 := f525.keep K491 nin0
      refine own_stat X491 281 (argsL := [(.ref r369), (.ref r369), (.ref r10)]) (rest := []) at_278 (rm22 l Z n0 h491 [] a0 hw hWd X491.old r369 r10 t10 kt10 cs10 f503 f508 f514 f520 f526 f18 ) (ow hw 140 rfl) (ow hw 141 rfl) (ow hw 2 rfl) (ow hw 142 rfl) (by decide) (lenOf pd__28Lcom_2fexample_2fratable_2fratable_2fcore_2fPosted_3bLcom_2fexample_2fratable_2fratable_2fcore_2fPosted_3bLjava_2flang_2fString_3b_29Z rfl) rfl rfl rfl (W := 0) rfl (by decide) (by decide) (by decide) (by decide) all0 rfl ?_
      intro T527 h527 v527 X527 K527 hQ527
      obtain rfl := hQ527
      show OGo _ _ _ _ T527 (mkF m 281 #[.val (.int pa), .val (.int pb), .val (.int pc), .val (.int pd), .val (.ref r1), .val (.ref r10), .val (.ref r19), .val (.int 2), .val (.ref b28), .val (.ref b30), .val (.ref b32), .val (.ref r343), .val (.ref r369), .val .null, .val (.int 2), .val (.int 1)] [(.int 1)])
      refine og_ifN X527 284 at_281 (XT.i0_eq_f (by decide)) rfl ?_
      refine og_iconst X527 285 (1 : Int32) at_284 rfl rfl ?_
      refine og_goto X527 289 at_285 (by decide) (by decide) ?_
      refine og_istore X527 291 #[.val (.int pa), .val (.int pb), .val (.int pc), .val (.int pd), .val (.ref r1), .val (.ref r10), .val (.ref r19), .val (.int 2), .val (.ref b28), .val (.ref b30), .val (.ref b32), .val (.ref r343), .val (.ref r369), .val .null, .val (.int 2), .val (.int 1)] at_289 rfl rfl ?_
      refine og_iload X527 293 at_291 rfl rfl ?_
      refine og_iconst X527 294 (3 : Int32) at_293 rfl rfl ?_
      refine og_icmpY X527 329 at_294 (XT.ii_lt_t (by decide)) (by decide) (by decide) ?_
      refine og_iload X527 331 at_329 rfl rfl ?_
      refine own_retZ X527 at_331 hret rfl (by decide) (by decide) ?_
      exact rfl
  · -- count 3
    rw [eQ]
    by_cases hc528 : cs1 = cs10
    · -- cs1 = cs10
      subst hc528
      by_cases hc529 : cs1 = cs19
      · -- cs1 = cs19
        subst hc529
        refine og_iload X36 55 at_53 rfl rfl ?_
        refine og_iconst X36 56 (1 : Int32) at_55 rfl rfl ?_
        refine og_icmpN X36 59 at_56 (XT.ii_lt_f (by decide)) rfl ?_
        refine og_aload X36 61 at_59 rfl rfl rfl ?_
        refine og_aload X36 63 at_61 rfl rfl rfl ?_
        have X530 := own_svA X36 f42 (by decide) (Nat.le_trans (own_n0 X32) ge_io36) (Nat.le_trans (Nat.le_trans (Nat.le_trans (Nat.le_trans (Nat.le_trans (Nat.le_trans K1.1 K10.1) K19.1) K28.1) K30.1) K32.1) ge_io36)
        have X531 := own_svA X530 f40 (by decide) (Nat.le_trans (own_n0 X32) ge_bk36) (Nat.le_trans (Nat.le_trans (Nat.le_trans (Nat.le_trans (Nat.le_trans (Nat.le_trans K1.1 K10.1) K19.1) K28.1) K30.1) K32.1) ge_bk36)
        have X532 := own_svN X531 rfl f50 (Nat.le_trans (own_n0 X0) ge_r1) ge_r1
        refine own_virt X532 66 (a := b32) (argsL := [(.ref r1)]) (rest := []) at_63 f155 (fun _ hZ => notFace_of_selects (args := #[]) (mvT hZ (ow hw 49 rfl))) (ro_0n l Z n0 h36 [] a0 hw hWd X532.old b32 bk36 io36 kb36 ki36 r1 t1 kt1 cs1 f155 f37 f38 f39 f40 f42 f41 f43 f44 f50 f56 f62 f68 f74 f80 f86 f27 (own_svb X36 (om 0 rfl)) (own_svb X530 (om 0 rfl)) (own_svb X531 (om 0 rfl)) (own_svb X532 (om 0 rfl))) (ow hw 46 rfl) (ow hw 47 rfl) (ow hw 49 rfl) (ow hw 48 rfl) (ow hw 36 rfl) (ow hw 50 rfl) (by decide) (lenOf pd__28Ljava_2flang_2fString_3b_29Lcom_2fexample_2fratable_2fratable_2fcore_2fPosted_3b rfl) rfl rfl rfl (W := 0) rfl (by decide) (by decide) (by decide) (by decide) (allS (om 3 rfl) (allS (om 2 rfl) (allS (om 1 rfl) (allS (om 0 rfl) all0)))) rfl ?_
        intro T533 h533 v533 X533 K533 hQ533
        obtain ⟨r533, rfl, ge_r533, f534, f535, f536, f537, f538, f539, f540, f541, f542, f543, f544, f545, f546⟩ := hQ533
        show OGo _ _ _ _ T533 (mkF m 66 #[.val (.int pa), .val (.int pb), .val (.int pc), .val (.int pd), .val (.ref r1), .val (.ref r10), .val (.ref r19), .val (.int 3), .val (.ref b28), .val (.ref b30), .val (.ref b32), .val .null, .val .null, .val .null, .unset, .unset] [(.ref r533)])
        refine og_astore X533 68 #[.val (.int pa), .val (.int pb), .val (.int pc), .val (.int pd), .val (.ref r1), .val (.ref r10), .val (.ref r19), .val (.int 3), .val (.ref b28), .val (.ref b30), .val (.ref b32), .val (.ref r533), .val .null, .val .null, .unset, .unset] at_66 rfl rfl rfl ?_
        refine og_iload X533 70 at_68 rfl rfl ?_
        refine og_iconst X533 71 (2 : Int32) at_70 rfl rfl ?_
        refine og_icmpN X533 74 at_71 (XT.ii_lt_f (by decide)) rfl ?_
        refine og_aload X533 76 at_74 rfl rfl rfl ?_
        refine og_aload X533 78 at_76 rfl rfl rfl ?_
        have f547 := f155.keep K533
        have f548 := f50.keep K533
        have f550 := f80.keep K533
        have f549 := f86.keep K533 (ninS (Nat.ne_of_lt (Nat.lt_of_lt_of_le (Nat.lt_of_lt_of_le f7.lt (Nat.le_trans (Nat.le_trans (Nat.le_trans K10.1 K19.1) K28.1) K30.1)) G32)) (ninS (Nat.ne_of_lt (Nat.lt_of_lt_of_le (Nat.lt_of_lt_of_le f7.lt (Nat.le_trans (Nat.le_trans (Nat.le_trans (Nat.le_trans K10.1 K19.1) K28.1) K30.1) K32.1)) ge_io36)) (ninS (Nat.ne_of_lt (Nat.lt_of_lt_of_le (Nat.lt_of_lt_of_le f7.lt (Nat.le_trans (Nat.le_trans (Nat.le_trans (Nat.le_trans K10.1 K19.1) K28.1) K30.1) K32.1)) ge_bk36)) (ninS (ne_exa f550 f548 (by decide)) nin0))))
        have f551 := f91.keep K533
        have f552 := f96.keep K533 (ninS (Nat.ne_of_lt (Nat.lt_of_lt_of_le (Nat.lt_of_lt_of_le f11.lt (Nat.le_trans (Nat.le_trans K19.1 K28.1) K30.1)) G32)) (ninS (Nat.ne_of_lt (Nat.lt_of_lt_of_le (Nat.lt_of_lt_of_le f11.lt (Nat.le_trans (Nat.le_trans (Nat.le_trans K19.1 K28.1) K30.1) K32.1)) ge_io36)) (ninS (Nat.ne_of_lt (Nat.lt_of_lt_of_le (Nat.lt_of_lt_of_le f11.lt (Nat.le_trans (Nat.le_trans (Nat.le_trans K19.1 K28.1) K30.1) K32.1)) ge_bk36)) (ninS (Nat.ne_of_gt (Nat.lt_of_lt_of_le f2.lt ge_r10)) nin0))))
        have f553 := f101.keep K533 (ninS (Nat.ne_of_lt (Nat.lt_of_lt_of_le (Nat.lt_of_lt_of_le f11.lt (Nat.le_trans (Nat.le_trans K19.1 K28.1) K30.1)) G32)) (ninS (Nat.ne_of_lt (Nat.lt_of_lt_of_le (Nat.lt_of_lt_of_le f11.lt (Nat.le_trans (Nat.le_trans (Nat.le_trans K19.1 K28.1) K30.1) K32.1)) ge_io36)) (ninS (Nat.ne_of_lt (Nat.lt_of_lt_of_le (Nat.lt_of_lt_of_le f11.lt (Nat.le_trans (Nat.le_trans (Nat.le_trans K19.1 K28.1) K30.1) K32.1)) ge_bk36)) (ninS (Nat.ne_of_gt (Nat.lt_of_lt_of_le f2.lt ge_r10)) nin0))))
        have f554 := f106.keep K533 (ninS (Nat.ne_of_lt (Nat.lt_of_lt_of_le (Nat.lt_of_lt_of_le f11.lt (Nat.le_trans (Nat.le_trans K19.1 K28.1) K30.1)) G32)) (ninS (Nat.ne_of_lt (Nat.lt_of_lt_of_le (Nat.lt_of_lt_of_le f11.lt (Nat.le_trans (Nat.le_trans (Nat.le_trans K19.1 K28.1) K30.1) K32.1)) ge_io36)) (ninS (Nat.ne_of_lt (Nat.lt_of_lt_of_le (Nat.lt_of_lt_of_le f11.lt (Nat.le_trans (Nat.le_trans (Nat.le_trans K19.1 K28.1) K30.1) K32.1)) ge_bk36)) (ninS (Nat.ne_of_gt (Nat.lt_of_lt_of_le f2.lt ge_r10)) nin0))))
        have f555 := f111.keep K533 (ninS (Nat.ne_of_lt (Nat.lt_of_lt_of_le (Nat.lt_of_lt_of_le f11.lt (Nat.le_trans (Nat.le_trans K19.1 K28.1) K30.1)) G32)) (ninS (Nat.ne_of_lt (Nat.lt_of_lt_of_le (Nat.lt_of_lt_of_le f11.lt (Nat.le_trans (Nat.le_trans (Nat.le_trans K19.1 K28.1) K30.1) K32.1)) ge_io36)) (ninS (Nat.ne_of_lt (Nat.lt_of_lt_of_le (Nat.lt_of_lt_of_le f11.lt (Nat.le_trans (Nat.le_trans (Nat.le_trans K19.1 K28.1) K30.1) K32.1)) ge_bk36)) (ninS (Nat.ne_of_gt (Nat.lt_of_lt_of_le f2.lt ge_r10)) nin0))))
        have f556 := f116.keep K533
        have f557 := f121.keep K533 (ninS (Nat.ne_of_lt (Nat.lt_of_lt_of_le (Nat.lt_of_lt_of_le f16.lt (Nat.le_trans (Nat.le_trans K19.1 K28.1) K30.1)) G32)) (ninS (Nat.ne_of_lt (Nat.lt_of_lt_of_le (Nat.lt_of_lt_of_le f16.lt (Nat.le_trans (Nat.le_trans (Nat.le_trans K19.1 K28.1) K30.1) K32.1)) ge_io36)) (ninS (Nat.ne_of_lt (Nat.lt_of_lt_of_le (Nat.lt_of_lt_of_le f16.lt (Nat.le_trans (Nat.le_trans (Nat.le_trans K19.1 K28.1) K30.1) K32.1)) ge_bk36)) (ninS (ne_exa f556 f548 (by decide)) nin0))))
        have X558 := own_svN X533 rfl f551 (Nat.le_trans (own_n0 X1) ge_r10) (Nat.le_trans K1.1 ge_r10)
        refine own_virt X558 81 (a := b32) (argsL := [(.ref r10)]) (rest := []) at_78 f547 (fun _ hZ => notFace_of_selects (args := #[]) (mvT hZ (ow hw 49 rfl))) (ro_1f0 l Z n0 h533 [] a0 hw hWd X558.old b32 bk36 io36 kb36 ki36 r10 t10 kt10 r533 r1 t1 kt1 cs1 f547 f534 f535 f536 f537 f538 f41 f43 f44 f539 f540 f541 f542 f548 f543 f544 f549 f27 f551 f552 f553 f554 f555 f556 f557 f27 (Nat.ne_of_gt (Nat.lt_of_lt_of_le f2.lt ge_r10)) (own_svb X558 (om 0 rfl))) (ow hw 46 rfl) (ow hw 47 rfl) (ow hw 49 rfl) (ow hw 48 rfl) (ow hw 36 rfl) (ow hw 50 rfl) (by decide) (lenOf pd__28Ljava_2flang_2fString_3b_29Lcom_2fexample_2fratable_2fratable_2fcore_2fPosted_3b rfl) rfl rfl rfl (W := 0) rfl (by decide) (by decide) (by decide) (by decide) (allS (om 0 rfl) all0) rfl ?_
        intro T559 h559 v559 X559 K559 hQ559
        obtain ⟨rfl, f560, f561, f562, f563⟩ := hQ559
        show OGo _ _ _ _ T559 (mkF m 81 #[.val (.int pa), .val (.int pb), .val (.int pc), .val (.int pd), .val (.ref r1), .val (.ref r10), .val (.ref r19), .val (.int 3), .val (.ref b28), .val (.ref b30), .val (.ref b32), .val (.ref r533), .val .null, .val .null, .unset, .unset] [(.ref r533)])
        refine og_astore X559 83 #[.val (.int pa), .val (.int pb), .val (.int pc), .val (.int pd), .val (.ref r1), .val (.ref r10), .val (.ref r19), .val (.int 3), .val (.ref b28), .val (.ref b30), .val (.ref b32), .val (.ref r533), .val (.ref r533), .val .null, .unset, .unset] at_81 rfl rfl rfl ?_
        refine og_iload X559 85 at_83 rfl rfl ?_
        refine og_iconst X559 86 (3 : Int32) at_85 rfl rfl ?_
        refine og_icmpN X559 89 at_86 (XT.ii_lt_f (by decide)) rfl ?_
        refine og_aload X559 91 at_89 rfl rfl rfl ?_
        refine og_aload X559 93 at_91 rfl rfl rfl ?_
        have f564 := f547.keep K559
        have f565 := f534.keep K559 (ninS (Nat.ne_of_gt (Nat.lt_of_lt_of_le (Nat.lt_of_lt_of_le f11.lt (Nat.le_trans (Nat.le_trans K19.1 K28.1) K30.1)) G32)) nin0)
        have f566 := f535.keep K559 (ninS (Nat.ne_of_gt (Nat.lt_of_lt_of_le (Nat.lt_of_lt_of_le f11.lt (Nat.le_trans (Nat.le_trans K19.1 K28.1) K30.1)) G32)) nin0)
        have f567 := f536.keep K559 (ninS (Nat.ne_of_gt (Nat.lt_of_lt_of_le (Nat.lt_of_lt_of_le f11.lt (Nat.le_trans (Nat.le_trans K19.1 K28.1) K30.1)) G32)) nin0)
        have f568 := f537.keep K559 (ninS (Nat.ne_of_gt (Nat.lt_of_lt_of_le (Nat.lt_of_lt_of_le f11.lt (Nat.le_trans (Nat.le_trans (Nat.le_trans K19.1 K28.1) K30.1) K32.1)) ge_bk36)) nin0)
        have f569 := f538.keep K559 (ninS (Nat.ne_of_gt (Nat.lt_of_lt_of_le (Nat.lt_of_lt_of_le f11.lt (Nat.le_trans (Nat.le_trans (Nat.le_trans K19.1 K28.1) K30.1) K32.1)) ge_io36)) nin0)
        have f570 := f539.keep K559
        have f571 := f540.keep K559 (ninS (Nat.ne_of_gt (Nat.lt_of_lt_of_le (Nat.lt_of_lt_of_le f11.lt (Nat.le_trans (Nat.le_trans (Nat.le_trans (Nat.le_trans K19.1 K28.1) K30.1) K32.1) K36.1)) ge_r533)) nin0)
        have f572 := f541.keep K559 (ninS (Nat.ne_of_gt (Nat.lt_of_lt_of_le (Nat.lt_of_lt_of_le f11.lt (Nat.le_trans (Nat.le_trans (Nat.le_trans (Nat.le_trans K19.1 K28.1) K30.1) K32.1) K36.1)) ge_r533)) nin0)
        have f573 := f542.keep K559 (ninS (Nat.ne_of_gt (Nat.lt_of_lt_of_le (Nat.lt_of_lt_of_le f11.lt (Nat.le_trans (Nat.le_trans (Nat.le_trans (Nat.le_trans K19.1 K28.1) K30.1) K32.1) K36.1)) ge_r533)) nin0)
        have f574 := f548.keep K559
        have f575 := f543.keep K559 (ninS (Nat.ne_of_lt (Nat.lt_of_lt_of_le f2.lt ge_r10)) nin0)
        have f576 := f544.keep K559 (ninS (Nat.ne_of_lt (Nat.lt_of_lt_of_le f2.lt ge_r10)) nin0)
        have f577 := f549.keep K559 (ninS (Nat.ne_of_lt (Nat.lt_of_lt_of_le f7.lt ge_r10)) nin0)
        have f578 := f125.keep K533
        have f579 := f578.keep K559
        have f580 := f129.keep K533 (ninS (Nat.ne_of_lt (Nat.lt_of_lt_of_le (Nat.lt_of_lt_of_le f20.lt (Nat.le_trans K28.1 K30.1)) G32)) (ninS (Nat.ne_of_lt (Nat.lt_of_lt_of_le (Nat.lt_of_lt_of_le f20.lt (Nat.le_trans (Nat.le_trans K28.1 K30.1) K32.1)) ge_io36)) (ninS (Nat.ne_of_lt (Nat.lt_of_lt_of_le (Nat.lt_of_lt_of_le f20.lt (Nat.le_trans (Nat.le_trans K28.1 K30.1) K32.1)) ge_bk36)) (ninS (Nat.ne_of_gt (Nat.lt_of_lt_of_le (Nat.lt_of_lt_of_le f2.lt K10.1) ge_r19)) nin0))))
        have f581 := f580.keep K559 (ninS (Nat.ne_of_gt (Nat.lt_of_lt_of_le f11.lt ge_r19)) nin0)
        have f582 := f133.keep K533 (ninS (Nat.ne_of_lt (Nat.lt_of_lt_of_le (Nat.lt_of_lt_of_le f20.lt (Nat.le_trans K28.1 K30.1)) G32)) (ninS (Nat.ne_of_lt (Nat.lt_of_lt_of_le (Nat.lt_of_lt_of_le f20.lt (Nat.le_trans (Nat.le_trans K28.1 K30.1) K32.1)) ge_io36)) (ninS (Nat.ne_of_lt (Nat.lt_of_lt_of_le (Nat.lt_of_lt_of_le f20.lt (Nat.le_trans (Nat.le_trans K28.1 K30.1) K32.1)) ge_bk36)) (ninS (Nat.ne_of_gt (Nat.lt_of_lt_of_le (Nat.lt_of_lt_of_le f2.lt K10.1) ge_r19)) nin0))))
        have f583 := f582.keep K559 (ninS (Nat.ne_of_gt (Nat.lt_of_lt_of_le f11.lt ge_r19)) nin0)
        have f584 := f137.keep K533 (ninS (Nat.ne_of_lt (Nat.lt_of_lt_of_le (Nat.lt_of_lt_of_le f20.lt (Nat.le_trans K28.1 K30.1)) G32)) (ninS (Nat.ne_of_lt (Nat.lt_of_lt_of_le (Nat.lt_of_lt_of_le f20.lt (Nat.le_trans (Nat.le_trans K28.1 K30.1) K32.1)) ge_io36)) (ninS (Nat.ne_of_lt (Nat.lt_of_lt_of_le (Nat.lt_of_lt_of_le f20.lt (Nat.le_trans (Nat.le_trans K28.1 K30.1) K32.1)) ge_bk36)) (ninS (Nat.ne_of_gt (Nat.lt_of_lt_of_le (Nat.lt_of_lt_of_le f2.lt K10.1) ge_r19)) nin0))))
        have f585 := f584.keep K559 (ninS (Nat.ne_of_gt (Nat.lt_of_lt_of_le f11.lt ge_r19)) nin0)
        have f586 := f141.keep K533 (ninS (Nat.ne_of_lt (Nat.lt_of_lt_of_le (Nat.lt_of_lt_of_le f20.lt (Nat.le_trans K28.1 K30.1)) G32)) (ninS (Nat.ne_of_lt (Nat.lt_of_lt_of_le (Nat.lt_of_lt_of_le f20.lt (Nat.le_trans (Nat.le_trans K28.1 K30.1) K32.1)) ge_io36)) (ninS (Nat.ne_of_lt (Nat.lt_of_lt_of_le (Nat.lt_of_lt_of_le f20.lt (Nat.le_trans (Nat.le_trans K28.1 K30.1) K32.1)) ge_bk36)) (ninS (Nat.ne_of_gt (Nat.lt_of_lt_of_le (Nat.lt_of_lt_of_le f2.lt K10.1) ge_r19)) nin0))))
        have f587 := f586.keep K559 (ninS (Nat.ne_of_gt (Nat.lt_of_lt_of_le f11.lt ge_r19)) nin0)
        have f588 := f145.keep K533
        have f589 := f588.keep K559
        have f590 := f149.keep K533 (ninS (Nat.ne_of_lt (Nat.lt_of_lt_of_le (Nat.lt_of_lt_of_le f25.lt (Nat.le_trans K28.1 K30.1)) G32)) (ninS (Nat.ne_of_lt (Nat.lt_of_lt_of_le (Nat.lt_of_lt_of_le f25.lt (Nat.le_trans (Nat.le_trans K28.1 K30.1) K32.1)) ge_io36)) (ninS (Nat.ne_of_lt (Nat.lt_of_lt_of_le (Nat.lt_of_lt_of_le f25.lt (Nat.le_trans (Nat.le_trans K28.1 K30.1) K32.1)) ge_bk36)) (ninS (ne_exa f589 f574 (by decide)) nin0))))
        have f592 := f551.keep K559
        have f591 := f590.keep K559 (ninS (ne_exa f589 f592 (by decide)) nin0)
        have X593 := own_svN X559 rfl f579 (Nat.le_trans (own_n0 X10) ge_r19) (Nat.le_trans (Nat.le_trans K1.1 K10.1) ge_r19)
        refine own_virt X593 96 (a := b32) (argsL := [(.ref r19)]) (rest := []) at_93 f564 (fun _ hZ => notFace_of_selects (args := #[]) (mvT hZ (ow hw 49 rfl))) (ro_1f0 l Z n0 h559 [] a0 hw hWd X593.old b32 bk36 io36 kb36 ki36 r19 t19 kt19 r533 r1 t1 kt1 cs1 f564 f565 f566 f567 f568 f569 f41 f43 f44 f570 f571 f572 f573 f574 f575 f576 f577 f27 f579 f581 f583 f585 f587 f589 f591 f27 (Nat.ne_of_gt (Nat.lt_of_lt_of_le (Nat.lt_of_lt_of_le f2.lt K10.1) ge_r19)) (own_svb X593 (om 0 rfl))) (ow hw 46 rfl) (ow hw 47 rfl) (ow hw 49 rfl) (ow hw 48 rfl) (ow hw 36 rfl) (ow hw 50 rfl) (by decide) (lenOf pd__28Ljava_2flang_2fString_3b_29Lcom_2fexample_2fratable_2fratable_2fcore_2fPosted_3b rfl) rfl rfl rfl (W := 0) rfl (by decide) (by decide) (by decide) (by decide) (allS (om 0 rfl) all0) rfl ?_
        intro T594 h594 v594 X594 K594 hQ594
        obtain ⟨rfl, f595, f596, f597, f598⟩ := hQ594
        show OGo _ _ _ _ T594 (mkF m 96 #[.val (.int pa), .val (.int pb), .val (.int pc), .val (.int pd), .val (.ref r1), .val (.ref r10), .val (.ref r19), .val (.int 3), .val (.ref b28), .val (.ref b30), .val (.ref b32), .val (.ref r533), .val (.ref r533), .val .null, .unset, .unset] [(.ref r533)])
        refine og_astore X594 98 #[.val (.int pa), .val (.int pb), .val (.int pc), .val (.int pd), .val (.ref r1), .val (.ref r10), .val (.ref r19), .val (.int 3), .val (.ref b28), .val (.ref b30), .val (.ref b32), .val (.ref r533), .val (.ref r533), .val (.ref r533), .unset, .unset] at_96 rfl rfl rfl ?_
        refine og_iconst X594 99 (0 : Int32) at_98 rfl rfl ?_
        refine og_istore X594 101 #[.val (.int pa), .val (.int pb), .val (.int pc), .val (.int pd), .val (.ref r1), .val (.ref r10), .val (.ref r19), .val (.int 3), .val (.ref b28), .val (.ref b30), .val (.ref b32), .val (.ref r533), .val (.ref r533), .val (.ref r533), .val (.int 0), .unset] at_99 rfl rfl ?_
        refine og_iload X594 103 at_101 rfl rfl ?_
        refine og_iconst X594 104 (1 : Int32) at_103 rfl rfl ?_
        refine og_icmpN X594 107 at_104 (XT.ii_lt_f (by decide)) rfl ?_
        refine og_aload X594 109 at_107 rfl rfl rfl ?_
        refine og_iload X594 111 at_109 rfl rfl ?_
        refine og_aload X594 113 at_111 rfl rfl rfl ?_
        have f599 := f152.keep K533 (ninS (Nat.ne_of_lt (Nat.lt_of_lt_of_le (Nat.lt_of_lt_of_le U28 K30.1) G32)) (ninS (Nat.ne_of_lt (Nat.lt_of_lt_of_le (Nat.lt_of_lt_of_le U28 (Nat.le_trans K30.1 K32.1)) ge_io36)) (ninS (Nat.ne_of_lt (Nat.lt_of_lt_of_le (Nat.lt_of_lt_of_le U28 (Nat.le_trans K30.1 K32.1)) ge_bk36)) (ninS (Nat.ne_of_gt (Nat.lt_of_lt_of_le (Nat.lt_of_lt_of_le f2.lt (Nat.le_trans K10.1 K19.1)) G28)) nin0))))
        have f600 := f599.keep K559 (ninS (Nat.ne_of_gt (Nat.lt_of_lt_of_le (Nat.lt_of_lt_of_le f11.lt K19.1) G28)) nin0)
        have f601 := f600.keep K594 (ninS (Nat.ne_of_gt (Nat.lt_of_lt_of_le f20.lt G28)) nin0)
        have f603 := f570.keep K594
        refine own_stR X594 114 at_113 f601 rfl rfl (own_sto f601 O28 (Ins.self f603)) (by decide) (by decide) (i := 0) (by decide) (Nat.le_of_ble_eq_true rfl) (om 7 rfl) rfl ?_
        intro T602 h602 X602 W602 K602 A602
        have f604 : Arv Z h602 b28 kb28 (.object "com/example/ratable/ratable/core/Posted") (3 : Int32) [(.ref r533), .null, .null] .null := A602
        refine og_aload X602 116 at_114 rfl rfl rfl ?_
        refine og_iload X602 118 at_116 rfl rfl ?_
        refine og_aload X602 120 at_118 rfl rfl rfl ?_
        have f605 := f154.keep K533 (ninS (Nat.ne_of_lt (Nat.lt_of_lt_of_le U30 G32)) (ninS (Nat.ne_of_lt (Nat.lt_of_lt_of_le (Nat.lt_of_lt_of_le U30 K32.1) ge_io36)) (ninS (Nat.ne_of_lt (Nat.lt_of_lt_of_le (Nat.lt_of_lt_of_le U30 K32.1) ge_bk36)) (ninS (Nat.ne_of_gt (Nat.lt_of_lt_of_le (Nat.lt_of_lt_of_le f2.lt (Nat.le_trans (Nat.le_trans K10.1 K19.1) K28.1)) G30)) nin0))))
        have f606 := f605.keep K559 (ninS (Nat.ne_of_gt (Nat.lt_of_lt_of_le (Nat.lt_of_lt_of_le f11.lt (Nat.le_trans K19.1 K28.1)) G30)) nin0)
        have f607 := f606.keep K594 (ninS (Nat.ne_of_gt (Nat.lt_of_lt_of_le (Nat.lt_of_lt_of_le f20.lt K28.1) G30)) nin0)
        have f608 := f607.keep K602 (ninS (Nat.ne_of_gt (Nat.lt_of_lt_of_le U28 G30)) nin0)
        have f610 := f574.keep K594
        have f611 := f610.keep K602
        refine own_stR X602 121 at_120 f608 rfl rfl (own_sto f608 O30 (Ins.self f611)) (by decide) (by decide) (i := 0) (by decide) (Nat.le_of_ble_eq_true rfl) (om 6 rfl) rfl ?_
        intro T609 h609 X609 W609 K609 A609
        have f612 : Arv Z h609 b30 kb30 (.object "java/lang/String") (3 : Int32) [(.ref r1), .null, .null] .null := A609
        refine og_iinc X609 124 #[.val (.int pa), .val (.int pb), .val (.int pc), .val (.int pd), .val (.ref r1), .val (.ref r10), .val (.ref r19), .val (.int 3), .val (.ref b28), .val (.ref b30), .val (.ref b32), .val (.ref r533), .val (.ref r533), .val (.ref r533), .val (.int 1), .unset] at_121 rfl rfl rfl ?_
        refine og_iload X609 126 at_124 rfl rfl ?_
        refine og_iconst X609 127 (2 : Int32) at_126 rfl rfl ?_
        refine og_icmpN X609 130 at_127 (XT.ii_lt_f (by decide)) rfl ?_
        refine og_aload X609 132 at_130 rfl rfl rfl ?_
        refine og_aload X609 134 at_132 rfl rfl rfl ?_
        have f613 := f592.keep K594
        have f614 := f613.keep K602
        have f615 := f614.keep K609
        have f616 := f560.keep K594 (ninS (Nat.ne_of_lt (Nat.lt_of_lt_of_le f11.lt ge_r19)) nin0)
        have f617 := f616.keep K602 (ninS (Nat.ne_of_lt (Nat.lt_of_lt_of_le (Nat.lt_of_lt_of_le f11.lt K19.1) G28)) nin0)
        have f618 := f617.keep K609 (ninS (Nat.ne_of_lt (Nat.lt_of_lt_of_le (Nat.lt_of_lt_of_le f11.lt (Nat.le_trans K19.1 K28.1)) G30)) nin0)
        have f619 := f561.keep K594 (ninS (Nat.ne_of_lt (Nat.lt_of_lt_of_le f11.lt ge_r19)) nin0)
        have f620 := f619.keep K602 (ninS (Nat.ne_of_lt (Nat.lt_of_lt_of_le (Nat.lt_of_lt_of_le f11.lt K19.1) G28)) nin0)
        have f621 := f620.keep K609 (ninS (Nat.ne_of_lt (Nat.lt_of_lt_of_le (Nat.lt_of_lt_of_le f11.lt (Nat.le_trans K19.1 K28.1)) G30)) nin0)
        have f623 := f556.keep K559
        have f624 := f623.keep K594
        have f625 := f624.keep K602
        have f626 := f625.keep K609
        have f622 := f557.keep K559 (ninS (ne_exa f626 f615 (by decide)) nin0)
        have f627 := f622.keep K594 (ninS (Nat.ne_of_lt (Nat.lt_of_lt_of_le f16.lt ge_r19)) nin0)
        have f628 := f627.keep K602 (ninS (Nat.ne_of_lt (Nat.lt_of_lt_of_le (Nat.lt_of_lt_of_le f16.lt K19.1) G28)) nin0)
        have f629 := f628.keep K609 (ninS (Nat.ne_of_lt (Nat.lt_of_lt_of_le (Nat.lt_of_lt_of_le f16.lt (Nat.le_trans K19.1 K28.1)) G30)) nin0)
        have f630 := own_rawS f615 f618 f621 f629 f27
        have f631 := f611.keep K609
        have f632 := f575.keep K594 (ninS (Nat.ne_of_lt (Nat.lt_of_lt_of_le (Nat.lt_of_lt_of_le f2.lt K10.1) ge_r19)) nin0)
        have f633 := f632.keep K602 (ninS (Nat.ne_of_lt (Nat.lt_of_lt_of_le (Nat.lt_of_lt_of_le f2.lt (Nat.le_trans K10.1 K19.1)) G28)) nin0)
        have f634 := f633.keep K609 (ninS (Nat.ne_of_lt (Nat.lt_of_lt_of_le (Nat.lt_of_lt_of_le f2.lt (Nat.le_trans (Nat.le_trans K10.1 K19.1) K28.1)) G30)) nin0)
        have f635 := f576.keep K594 (ninS (Nat.ne_of_lt (Nat.lt_of_lt_of_le (Nat.lt_of_lt_of_le f2.lt K10.1) ge_r19)) nin0)
        have f636 := f635.keep K602 (ninS (Nat.ne_of_lt (Nat.lt_of_lt_of_le (Nat.lt_of_lt_of_le f2.lt (Nat.le_trans K10.1 K19.1)) G28)) nin0)
        have f637 := f636.keep K609 (ninS (Nat.ne_of_lt (Nat.lt_of_lt_of_le (Nat.lt_of_lt_of_le f2.lt (Nat.le_trans (Nat.le_trans K10.1 K19.1) K28.1)) G30)) nin0)
        have f638 := f577.keep K594 (ninS (Nat.ne_of_lt (Nat.lt_of_lt_of_le (Nat.lt_of_lt_of_le f7.lt K10.1) ge_r19)) nin0)
        have f639 := f638.keep K602 (ninS (Nat.ne_of_lt (Nat.lt_of_lt_of_le (Nat.lt_of_lt_of_le f7.lt (Nat.le_trans K10.1 K19.1)) G28)) nin0)
        have f640 := f639.keep K609 (ninS (Nat.ne_of_lt (Nat.lt_of_lt_of_le (Nat.lt_of_lt_of_le f7.lt (Nat.le_trans (Nat.le_trans K10.1 K19.1) K28.1)) G30)) nin0)
        have f641 := own_rawS f631 f634 f637 f640 f27
        refine own_strEq X609 137 at_134 f630 f641 (own_wE hw) (ow hw 14 rfl) hWd.2.1 hWd.2.2 (ow hw 144 rfl) (ow hw 145 rfl) (ow hw 147 rfl) (ow hw 146 rfl) rfl (W := 0) rfl (by decide) (by decide) (by decide) (by decide) rfl ?_
        intro T642 X643
        refine og_ifY X643 157 at_137 (XT.i0_ne_t (own_eqbS _)) (by decide) (by decide) ?_
        refine og_iload X643 159 at_157 rfl rfl ?_
        refine og_iconst X643 160 (3 : Int32) at_159 rfl rfl ?_
        refine og_icmpN X643 163 at_160 (XT.ii_lt_f (by decide)) rfl ?_
        refine og_aload X643 165 at_163 rfl rfl rfl ?_
        refine og_aload X643 167 at_165 rfl rfl rfl ?_
        have f644 := f579.keep K594
        have f645 := f644.keep K602
        have f646 := f645.keep K609
        have f647 := f595.keep K602 (ninS (Nat.ne_of_lt (Nat.lt_of_lt_of_le f20.lt G28)) nin0)
        have f648 := f647.keep K609 (ninS (Nat.ne_of_lt (Nat.lt_of_lt_of_le (Nat.lt_of_lt_of_le f20.lt K28.1) G30)) nin0)
        have f649 := f596.keep K602 (ninS (Nat.ne_of_lt (Nat.lt_of_lt_of_le f20.lt G28)) nin0)
        have f650 := f649.keep K609 (ninS (Nat.ne_of_lt (Nat.lt_of_lt_of_le (Nat.lt_of_lt_of_le f20.lt K28.1) G30)) nin0)
        have f652 := f589.keep K594
        have f653 := f652.keep K602
        have f654 := f653.keep K609
        have f651 := f591.keep K594 (ninS (ne_exa f654 f646 (by decide)) nin0)
        have f655 := f651.keep K602 (ninS (Nat.ne_of_lt (Nat.lt_of_lt_of_le f25.lt G28)) nin0)
        have f656 := f655.keep K609 (ninS (Nat.ne_of_lt (Nat.lt_of_lt_of_le (Nat.lt_of_lt_of_le f25.lt K28.1) G30)) nin0)
        have f657 := own_rawS f646 f648 f650 f656 f27
        have f658 := own_rawS f631 f634 f637 f640 f27
        refine own_strEq X643 170 at_167 f657 f658 (own_wE hw) (ow hw 14 rfl) hWd.2.1 hWd.2.2 (ow hw 144 rfl) (ow hw 145 rfl) (ow hw 147 rfl) (ow hw 146 rfl) rfl (W := 0) rfl (by decide) (by decide) (by decide) (by decide) rfl ?_
        intro T659 X660
        refine og_ifY X660 200 at_170 (XT.i0_ne_t (own_eqbS _)) (by decide) (by decide) ?_
        refine og_aload X660 202 at_200 rfl rfl rfl ?_
        have f661 := f564.keep K594
        have f662 := f661.keep K602
        have f663 := f662.keep K609
        have f664 := f567.keep K594 (ninS (Nat.ne_of_gt (Nat.lt_of_lt_of_le (Nat.lt_of_lt_of_le f20.lt (Nat.le_trans K28.1 K30.1)) G32)) nin0)
        have f665 := f664.keep K602 (ninS (Nat.ne_of_gt (Nat.lt_of_lt_of_le (Nat.lt_of_lt_of_le U28 K30.1) G32)) nin0)
        have f666 := f665.keep K609 (ninS (Nat.ne_of_gt (Nat.lt_of_lt_of_le U30 G32)) nin0)
        refine own_virt X660 205 (a := b32) (argsL := []) (rest := []) at_202 f663 (fun _ hZ => notFace_of_selects (args := #[]) (mvT hZ (ow hw 125 rfl))) (rm18 l Z n0 h609 [] a0 hw hWd X660.old b32 (1 : Int32) f666 ) (ow hw 122 rfl) (ow hw 123 rfl) (ow hw 125 rfl) (ow hw 124 rfl) (ow hw 36 rfl) (ow hw 126 rfl) (by decide) (lenOf pd__28_29I rfl) rfl rfl rfl (W := 0) rfl (by decide) (by decide) (by decide) (by decide) all0 rfl ?_
        intro T667 h667 v667 X667 K667 hQ667
        obtain rfl := hQ667
        show OGo _ _ _ _ T667 (mkF m 205 #[.val (.int pa), .val (.int pb), .val (.int pc), .val (.int pd), .val (.ref r1), .val (.ref r10), .val (.ref r19), .val (.int 3), .val (.ref b28), .val (.ref b30), .val (.ref b32), .val (.ref r533), .val (.ref r533), .val (.ref r533), .val (.int 1), .unset] [(.int 1)])
        refine og_iload X667 207 at_205 rfl rfl ?_
        refine og_icmpY X667 212 at_207 (XT.ii_eq_t (by decide)) (by decide) (by decide) ?_
        refine og_iconst X667 213 (1 : Int32) at_212 rfl rfl ?_
        refine og_istore X667 215 #[.val (.int pa), .val (.int pb), .val (.int pc), .val (.int pd), .val (.ref r1), .val (.ref r10), .val (.ref r19), .val (.int 3), .val (.ref b28), .val (.ref b30), .val (.ref b32), .val (.ref r533), .val (.ref r533), .val (.ref r533), .val (.int 1), .val (.int 1)] at_213 rfl rfl ?_
        refine og_iload X667 217 at_215 rfl rfl ?_
        refine og_iconst X667 218 (1 : Int32) at_217 rfl rfl ?_
        refine og_icmpN X667 221 at_218 (XT.ii_lt_f (by decide)) rfl ?_
        refine og_iload X667 223 at_221 rfl rfl ?_
        refine og_ifN X667 226 at_223 (XT.i0_eq_f (by decide)) rfl ?_
        refine og_aload X667 228 at_226 rfl rfl rfl ?_
        refine og_iconst X667 229 (0 : Int32) at_228 rfl rfl ?_
        have f668 := f663.keep K667
        have f669 := f666.keep K667 nin0
        have f670 := f566.keep K594 (ninS (Nat.ne_of_gt (Nat.lt_of_lt_of_le (Nat.lt_of_lt_of_le f20.lt (Nat.le_trans K28.1 K30.1)) G32)) nin0)
        have f671 := f670.keep K602 (ninS (Nat.ne_of_gt (Nat.lt_of_lt_of_le (Nat.lt_of_lt_of_le U28 K30.1) G32)) nin0)
        have f672 := f671.keep K609 (ninS (Nat.ne_of_gt (Nat.lt_of_lt_of_le U30 G32)) nin0)
        have f673 := f672.keep K667 nin0
        have f674 := f569.keep K594 (ninS (Nat.ne_of_gt (Nat.lt_of_lt_of_le (Nat.lt_of_lt_of_le f20.lt (Nat.le_trans (Nat.le_trans K28.1 K30.1) K32.1)) ge_io36)) nin0)
        have f675 := f674.keep K602 (ninS (Nat.ne_of_gt (Nat.lt_of_lt_of_le (Nat.lt_of_lt_of_le U28 (Nat.le_trans K30.1 K32.1)) ge_io36)) nin0)
        have f676 := f675.keep K609 (ninS (Nat.ne_of_gt (Nat.lt_of_lt_of_le (Nat.lt_of_lt_of_le U30 K32.1) ge_io36)) nin0)
        have f677 := f676.keep K667 nin0
        refine own_virt X667 232 (a := b32) (argsL := [(.int 0)]) (rest := []) at_229 f668 (fun _ hZ => notFace_of_selects (args := #[]) (mvT hZ (ow hw 130 rfl))) (rt_10 l Z n0 h667 [] a0 hw hWd X667.old b32 io36 ki36 r533 f669 f673 f677 ) (ow hw 127 rfl) (ow hw 128 rfl) (ow hw 130 rfl) (ow hw 129 rfl) (ow hw 36 rfl) (ow hw 131 rfl) (by decide) (lenOf pd__28I_29Lcom_2fexample_2fratable_2fratable_2fcore_2fPosted_3b rfl) rfl rfl rfl (W := 0) rfl (by decide) (by decide) (by decide) (by decide) all0 rfl ?_
        intro T678 h678 v678 X678 K678 hQ678
        obtain rfl := hQ678
        show OGo _ _ _ _ T678 (mkF m 232 #[.val (.int pa), .val (.int pb), .val (.int pc), .val (.int pd), .val (.ref r1), .val (.ref r10), .val (.ref r19), .val (.int 3), .val (.ref b28), .val (.ref b30), .val (.ref b32), .val (.ref r533), .val (.ref r533), .val (.ref r533), .val (.int 1), .val (.int 1)] [(.ref r533)])
        refine og_aload X678 234 at_232 rfl rfl rfl ?_
        refine og_iconst X678 235 (0 : Int32) at_234 rfl rfl ?_
        have f679 := f604.keep K609 (ninS (Nat.ne_of_lt (Nat.lt_of_lt_of_le U28 G30)) nin0)
        have f680 := f679.keep K667 nin0
        have f681 := f680.keep K678 nin0
        refine own_ldR X678 236 at_235 f681 rfl (by decide) (by decide) rfl rfl ?_
        refine og_aload X678 238 at_236 rfl rfl rfl ?_
        refine og_iconst X678 239 (0 : Int32) at_238 rfl rfl ?_
        have f682 := f612.keep K667 nin0
        have f683 := f682.keep K678 nin0
        refine own_ldR X678 240 at_239 f683 rfl (by decide) (by decide) rfl rfl ?_
        have f684 := f571.keep K594 (ninS (Nat.ne_of_gt (Nat.lt_of_lt_of_le (Nat.lt_of_lt_of_le f20.lt (Nat.le_trans (Nat.le_trans (Nat.le_trans K28.1 K30.1) K32.1) K36.1)) ge_r533)) nin0)
        have f685 := f684.keep K602 (ninS (Nat.ne_of_gt (Nat.lt_of_lt_of_le (Nat.lt_of_lt_of_le U28 (Nat.le_trans (Nat.le_trans K30.1 K32.1) K36.1)) ge_r533)) nin0)
        have f686 := f685.keep K609 (ninS (Nat.ne_of_gt (Nat.lt_of_lt_of_le (Nat.lt_of_lt_of_le U30 (Nat.le_trans K32.1 K36.1)) ge_r533)) nin0)
        have f687 := f686.keep K667 nin0
        have f688 := f687.keep K678 nin0
        have f689 := f631.keep K667
        have f690 := f689.keep K678
        have f691 := f634.keep K667 nin0
        have f692 := f691.keep K678 nin0
        have f693 := f637.keep K667 nin0
        have f694 := f693.keep K678 nin0
        have f695 := f640.keep K667 nin0
        have f696 := f695.keep K678 nin0
        refine own_stat X678 243 (argsL := [(.ref r533), (.ref r533), (.ref r1)]) (rest := []) at_240 (rm22 l Z n0 h678 [] a0 hw hWd X678.old r533 r1 t1 kt1 cs1 f688 f690 f692 f694 f696 f27 ) (ow hw 140 rfl) (ow hw 141 rfl) (ow hw 2 rfl) (ow hw 142 rfl) (by decide) (lenOf pd__28Lcom_2fexample_2fratable_2fratable_2fcore_2fPosted_3bLcom_2fexample_2fratable_2fratable_2fcore_2fPosted_3bLjava_2flang_2fString_3b_29Z rfl) rfl rfl rfl (W := 0) rfl (by decide) (by decide) (by decide) (by decide) all0 rfl ?_
        intro T697 h697 v697 X697 K697 hQ697
        obtain rfl := hQ697
        show OGo _ _ _ _ T697 (mkF m 243 #[.val (.int pa), .val (.int pb), .val (.int pc), .val (.int pd), .val (.ref r1), .val (.ref r10), .val (.ref r19), .val (.int 3), .val (.ref b28), .val (.ref b30), .val (.ref b32), .val (.ref r533), .val (.ref r533), .val (.ref r533), .val (.int 1), .val (.int 1)] [(.int 1)])
        refine og_ifN X697 246 at_243 (XT.i0_eq_f (by decide)) rfl ?_
        refine og_iconst X697 247 (1 : Int32) at_246 rfl rfl ?_
        refine og_goto X697 251 at_247 (by decide) (by decide) ?_
        refine og_istore X697 253 #[.val (.int pa), .val (.int pb), .val (.int pc), .val (.int pd), .val (.ref r1), .val (.ref r10), .val (.ref r19), .val (.int 3), .val (.ref b28), .val (.ref b30), .val (.ref b32), .val (.ref r533), .val (.ref r533), .val (.ref r533), .val (.int 1), .val (.int 1)] at_251 rfl rfl ?_
        refine og_iload X697 255 at_253 rfl rfl ?_
        refine og_iconst X697 256 (2 : Int32) at_255 rfl rfl ?_
        refine og_icmpY X697 291 at_256 (XT.ii_lt_t (by decide)) (by decide) (by decide) ?_
        refine og_iload X697 293 at_291 rfl rfl ?_
        refine og_iconst X697 294 (3 : Int32) at_293 rfl rfl ?_
        refine og_icmpY X697 329 at_294 (XT.ii_lt_t (by decide)) (by decide) (by decide) ?_
        refine og_iload X697 331 at_329 rfl rfl ?_
        refine own_retZ X697 at_331 hret rfl (by decide) (by decide) ?_
        exact rfl
      · -- not
        refine og_iload X36 55 at_53 rfl rfl ?_
        refine og_iconst X36 56 (1 : Int32) at_55 rfl rfl ?_
        refine og_icmpN X36 59 at_56 (XT.ii_lt_f (by decide)) rfl ?_
        refine og_aload X36 61 at_59 rfl rfl rfl ?_
        refine og_aload X36 63 at_61 rfl rfl rfl ?_
        have X698 := own_svA X36 f42 (by decide) (Nat.le_trans (own_n0 X32) ge_io36) (Nat.le_trans (Nat.le_trans (Nat.le_trans (Nat.le_trans (Nat.le_trans (Nat.le_trans K1.1 K10.1) K19.1) K28.1) K30.1) K32.1) ge_io36)
        have X699 := own_svA X698 f40 (by decide) (Nat.le_trans (own_n0 X32) ge_bk36) (Nat.le_trans (Nat.le_trans (Nat.le_trans (Nat.le_trans (Nat.le_trans (Nat.le_trans K1.1 K10.1) K19.1) K28.1) K30.1) K32.1) ge_bk36)
        have X700 := own_svN X699 rfl f50 (Nat.le_trans (own_n0 X0) ge_r1) ge_r1
        refine own_virt X700 66 (a := b32) (argsL := [(.ref r1)]) (rest := []) at_63 f155 (fun _ hZ => notFace_of_selects (args := #[]) (mvT hZ (ow hw 49 rfl))) (ro_0n l Z n0 h36 [] a0 hw hWd X700.old b32 bk36 io36 kb36 ki36 r1 t1 kt1 cs1 f155 f37 f38 f39 f40 f42 f41 f43 f44 f50 f56 f62 f68 f74 f80 f86 f18 (own_svb X36 (om 0 rfl)) (own_svb X698 (om 0 rfl)) (own_svb X699 (om 0 rfl)) (own_svb X700 (om 0 rfl))) (ow hw 46 rfl) (ow hw 47 rfl) (ow hw 49 rfl) (ow hw 48 rfl) (ow hw 36 rfl) (ow hw 50 rfl) (by decide) (lenOf pd__28Ljava_2flang_2fString_3b_29Lcom_2fexample_2fratable_2fratable_2fcore_2fPosted_3b rfl) rfl rfl rfl (W := 0) rfl (by decide) (by decide) (by decide) (by decide) (allS (om 3 rfl) (allS (om 2 rfl) (allS (om 1 rfl) (allS (om 0 rfl) all0)))) rfl ?_
        intro T701 h701 v701 X701 K701 hQ701
        obtain ⟨r701, rfl, ge_r701, f702, f703, f704, f705, f706, f707, f708, f709, f710, f711, f712, f713, f714⟩ := hQ701
        show OGo _ _ _ _ T701 (mkF m 66 #[.val (.int pa), .val (.int pb), .val (.int pc), .val (.int pd), .val (.ref r1), .val (.ref r10), .val (.ref r19), .val (.int 3), .val (.ref b28), .val (.ref b30), .val (.ref b32), .val .null, .val .null, .val .null, .unset, .unset] [(.ref r701)])
        refine og_astore X701 68 #[.val (.int pa), .val (.int pb), .val (.int pc), .val (.int pd), .val (.ref r1), .val (.ref r10), .val (.ref r19), .val (.int 3), .val (.ref b28), .val (.ref b30), .val (.ref b32), .val (.ref r701), .val .null, .val .null, .unset, .unset] at_66 rfl rfl rfl ?_
        refine og_iload X701 70 at_68 rfl rfl ?_
        refine og_iconst X701 71 (2 : Int32) at_70 rfl rfl ?_
        refine og_icmpN X701 74 at_71 (XT.ii_lt_f (by decide)) rfl ?_
        refine og_aload X701 76 at_74 rfl rfl rfl ?_
        refine og_aload X701 78 at_76 rfl rfl rfl ?_
        have f715 := f155.keep K701
        have f716 := f50.keep K701
        have f718 := f80.keep K701
        have f717 := f86.keep K701 (ninS (Nat.ne_of_lt (Nat.lt_of_lt_of_le (Nat.lt_of_lt_of_le f7.lt (Nat.le_trans (Nat.le_trans (Nat.le_trans K10.1 K19.1) K28.1) K30.1)) G32)) (ninS (Nat.ne_of_lt (Nat.lt_of_lt_of_le (Nat.lt_of_lt_of_le f7.lt (Nat.le_trans (Nat.le_trans (Nat.le_trans (Nat.le_trans K10.1 K19.1) K28.1) K30.1) K32.1)) ge_io36)) (ninS (Nat.ne_of_lt (Nat.lt_of_lt_of_le (Nat.lt_of_lt_of_le f7.lt (Nat.le_trans (Nat.le_trans (Nat.le_trans (Nat.le_trans K10.1 K19.1) K28.1) K30.1) K32.1)) ge_bk36)) (ninS (ne_exa f718 f716 (by decide)) nin0))))
        have f719 := f91.keep K701
        have f720 := f96.keep K701 (ninS (Nat.ne_of_lt (Nat.lt_of_lt_of_le (Nat.lt_of_lt_of_le f11.lt (Nat.le_trans (Nat.le_trans K19.1 K28.1) K30.1)) G32)) (ninS (Nat.ne_of_lt (Nat.lt_of_lt_of_le (Nat.lt_of_lt_of_le f11.lt (Nat.le_trans (Nat.le_trans (Nat.le_trans K19.1 K28.1) K30.1) K32.1)) ge_io36)) (ninS (Nat.ne_of_lt (Nat.lt_of_lt_of_le (Nat.lt_of_lt_of_le f11.lt (Nat.le_trans (Nat.le_trans (Nat.le_trans K19.1 K28.1) K30.1) K32.1)) ge_bk36)) (ninS (Nat.ne_of_gt (Nat.lt_of_lt_of_le f2.lt ge_r10)) nin0))))
        have f721 := f101.keep K701 (ninS (Nat.ne_of_lt (Nat.lt_of_lt_of_le (Nat.lt_of_lt_of_le f11.lt (Nat.le_trans (Nat.le_trans K19.1 K28.1) K30.1)) G32)) (ninS (Nat.ne_of_lt (Nat.lt_of_lt_of_le (Nat.lt_of_lt_of_le f11.lt (Nat.le_trans (Nat.le_trans (Nat.le_trans K19.1 K28.1) K30.1) K32.1)) ge_io36)) (ninS (Nat.ne_of_lt (Nat.lt_of_lt_of_le (Nat.lt_of_lt_of_le f11.lt (Nat.le_trans (Nat.le_trans (Nat.le_trans K19.1 K28.1) K30.1) K32.1)) ge_bk36)) (ninS (Nat.ne_of_gt (Nat.lt_of_lt_of_le f2.lt ge_r10)) nin0))))
        have f722 := f106.keep K701 (ninS (Nat.ne_of_lt (Nat.lt_of_lt_of_le (Nat.lt_of_lt_of_le f11.lt (Nat.le_trans (Nat.le_trans K19.1 K28.1) K30.1)) G32)) (ninS (Nat.ne_of_lt (Nat.lt_of_lt_of_le (Nat.lt_of_lt_of_le f11.lt (Nat.le_trans (Nat.le_trans (Nat.le_trans K19.1 K28.1) K30.1) K32.1)) ge_io36)) (ninS (Nat.ne_of_lt (Nat.lt_of_lt_of_le (Nat.lt_of_lt_of_le f11.lt (Nat.le_trans (Nat.le_trans (Nat.le_trans K19.1 K28.1) K30.1) K32.1)) ge_bk36)) (ninS (Nat.ne_of_gt (Nat.lt_of_lt_of_le f2.lt ge_r10)) nin0))))
        have f723 := f111.keep K701 (ninS (Nat.ne_of_lt (Nat.lt_of_lt_of_le (Nat.lt_of_lt_of_le f11.lt (Nat.le_trans (Nat.le_trans K19.1 K28.1) K30.1)) G32)) (ninS (Nat.ne_of_lt (Nat.lt_of_lt_of_le (Nat.lt_of_lt_of_le f11.lt (Nat.le_trans (Nat.le_trans (Nat.le_trans K19.1 K28.1) K30.1) K32.1)) ge_io36)) (ninS (Nat.ne_of_lt (Nat.lt_of_lt_of_le (Nat.lt_of_lt_of_le f11.lt (Nat.le_trans (Nat.le_trans (Nat.le_trans K19.1 K28.1) K30.1) K32.1)) ge_bk36)) (ninS (Nat.ne_of_gt (Nat.lt_of_lt_of_le f2.lt ge_r10)) nin0))))
        have f724 := f116.keep K701
        have f725 := f121.keep K701 (ninS (Nat.ne_of_lt (Nat.lt_of_lt_of_le (Nat.lt_of_lt_of_le f16.lt (Nat.le_trans (Nat.le_trans K19.1 K28.1) K30.1)) G32)) (ninS (Nat.ne_of_lt (Nat.lt_of_lt_of_le (Nat.lt_of_lt_of_le f16.lt (Nat.le_trans (Nat.le_trans (Nat.le_trans K19.1 K28.1) K30.1) K32.1)) ge_io36)) (ninS (Nat.ne_of_lt (Nat.lt_of_lt_of_le (Nat.lt_of_lt_of_le f16.lt (Nat.le_trans (Nat.le_trans (Nat.le_trans K19.1 K28.1) K30.1) K32.1)) ge_bk36)) (ninS (ne_exa f724 f716 (by decide)) nin0))))
        have X726 := own_svN X701 rfl f719 (Nat.le_trans (own_n0 X1) ge_r10) (Nat.le_trans K1.1 ge_r10)
        refine own_virt X726 81 (a := b32) (argsL := [(.ref r10)]) (rest := []) at_78 f715 (fun _ hZ => notFace_of_selects (args := #[]) (mvT hZ (ow hw 49 rfl))) (ro_1f0 l Z n0 h701 [] a0 hw hWd X726.old b32 bk36 io36 kb36 ki36 r10 t10 kt10 r701 r1 t1 kt1 cs1 f715 f702 f703 f704 f705 f706 f41 f43 f44 f707 f708 f709 f710 f716 f711 f712 f717 f18 f719 f720 f721 f722 f723 f724 f725 f18 (Nat.ne_of_gt (Nat.lt_of_lt_of_le f2.lt ge_r10)) (own_svb X726 (om 0 rfl))) (ow hw 46 rfl) (ow hw 47 rfl) (ow hw 49 rfl) (ow hw 48 rfl) (ow hw 36 rfl) (ow hw 50 rfl) (by decide) (lenOf pd__28Ljava_2flang_2fString_3b_29Lcom_2fexample_2fratable_2fratable_2fcore_2fPosted_3b rfl) rfl rfl rfl (W := 0) rfl (by decide) (by decide) (by decide) (by decide) (allS (om 0 rfl) all0) rfl ?_
        intro T727 h727 v727 X727 K727 hQ727
        obtain ⟨rfl, f728, f729, f730, f731⟩ := hQ727
        show OGo _ _ _ _ T727 (mkF m 81 #[.val (.int pa), .val (.int pb), .val (.int pc), .val (.int pd), .val (.ref r1), .val (.ref r10), .val (.ref r19), .val (.int 3), .val (.ref b28), .val (.ref b30), .val (.ref b32), .val (.ref r701), .val .null, .val .null, .unset, .unset] [(.ref r701)])
        refine og_astore X727 83 #[.val (.int pa), .val (.int pb), .val (.int pc), .val (.int pd), .val (.ref r1), .val (.ref r10), .val (.ref r19), .val (.int 3), .val (.ref b28), .val (.ref b30), .val (.ref b32), .val (.ref r701), .val (.ref r701), .val .null, .unset, .unset] at_81 rfl rfl rfl ?_
        refine og_iload X727 85 at_83 rfl rfl ?_
        refine og_iconst X727 86 (3 : Int32) at_85 rfl rfl ?_
        refine og_icmpN X727 89 at_86 (XT.ii_lt_f (by decide)) rfl ?_
        refine og_aload X727 91 at_89 rfl rfl rfl ?_
        refine og_aload X727 93 at_91 rfl rfl rfl ?_
        have f732 := f715.keep K727
        have f733 := f702.keep K727 (ninS (Nat.ne_of_gt (Nat.lt_of_lt_of_le (Nat.lt_of_lt_of_le f11.lt (Nat.le_trans (Nat.le_trans K19.1 K28.1) K30.1)) G32)) nin0)
        have f734 := f703.keep K727 (ninS (Nat.ne_of_gt (Nat.lt_of_lt_of_le (Nat.lt_of_lt_of_le f11.lt (Nat.le_trans (Nat.le_trans K19.1 K28.1) K30.1)) G32)) nin0)
        have f735 := f704.keep K727 (ninS (Nat.ne_of_gt (Nat.lt_of_lt_of_le (Nat.lt_of_lt_of_le f11.lt (Nat.le_trans (Nat.le_trans K19.1 K28.1) K30.1)) G32)) nin0)
        have f736 := f705.keep K727 (ninS (Nat.ne_of_gt (Nat.lt_of_lt_of_le (Nat.lt_of_lt_of_le f11.lt (Nat.le_trans (Nat.le_trans (Nat.le_trans K19.1 K28.1) K30.1) K32.1)) ge_bk36)) nin0)
        have f737 := f706.keep K727 (ninS (Nat.ne_of_gt (Nat.lt_of_lt_of_le (Nat.lt_of_lt_of_le f11.lt (Nat.le_trans (Nat.le_trans (Nat.le_trans K19.1 K28.1) K30.1) K32.1)) ge_io36)) nin0)
        have f738 := f707.keep K727
        have f739 := f708.keep K727 (ninS (Nat.ne_of_gt (Nat.lt_of_lt_of_le (Nat.lt_of_lt_of_le f11.lt (Nat.le_trans (Nat.le_trans (Nat.le_trans (Nat.le_trans K19.1 K28.1) K30.1) K32.1) K36.1)) ge_r701)) nin0)
        have f740 := f709.keep K727 (ninS (Nat.ne_of_gt (Nat.lt_of_lt_of_le (Nat.lt_of_lt_of_le f11.lt (Nat.le_trans (Nat.le_trans (Nat.le_trans (Nat.le_trans K19.1 K28.1) K30.1) K32.1) K36.1)) ge_r701)) nin0)
        have f741 := f710.keep K727 (ninS (Nat.ne_of_gt (Nat.lt_of_lt_of_le (Nat.lt_of_lt_of_le f11.lt (Nat.le_trans (Nat.le_trans (Nat.le_trans (Nat.le_trans K19.1 K28.1) K30.1) K32.1) K36.1)) ge_r701)) nin0)
        have f742 := f716.keep K727
        have f743 := f711.keep K727 (ninS (Nat.ne_of_lt (Nat.lt_of_lt_of_le f2.lt ge_r10)) nin0)
        have f744 := f712.keep K727 (ninS (Nat.ne_of_lt (Nat.lt_of_lt_of_le f2.lt ge_r10)) nin0)
        have f745 := f717.keep K727 (ninS (Nat.ne_of_lt (Nat.lt_of_lt_of_le f7.lt ge_r10)) nin0)
        have f746 := f125.keep K701
        have f747 := f746.keep K727
        have f748 := f129.keep K701 (ninS (Nat.ne_of_lt (Nat.lt_of_lt_of_le (Nat.lt_of_lt_of_le f20.lt (Nat.le_trans K28.1 K30.1)) G32)) (ninS (Nat.ne_of_lt (Nat.lt_of_lt_of_le (Nat.lt_of_lt_of_le f20.lt (Nat.le_trans (Nat.le_trans K28.1 K30.1) K32.1)) ge_io36)) (ninS (Nat.ne_of_lt (Nat.lt_of_lt_of_le (Nat.lt_of_lt_of_le f20.lt (Nat.le_trans (Nat.le_trans K28.1 K30.1) K32.1)) ge_bk36)) (ninS (Nat.ne_of_gt (Nat.lt_of_lt_of_le (Nat.lt_of_lt_of_le f2.lt K10.1) ge_r19)) nin0))))
        have f749 := f748.keep K727 (ninS (Nat.ne_of_gt (Nat.lt_of_lt_of_le f11.lt ge_r19)) nin0)
        have f750 := f133.keep K701 (ninS (Nat.ne_of_lt (Nat.lt_of_lt_of_le (Nat.lt_of_lt_of_le f20.lt (Nat.le_trans K28.1 K30.1)) G32)) (ninS (Nat.ne_of_lt (Nat.lt_of_lt_of_le (Nat.lt_of_lt_of_le f20.lt (Nat.le_trans (Nat.le_trans K28.1 K30.1) K32.1)) ge_io36)) (ninS (Nat.ne_of_lt (Nat.lt_of_lt_of_le (Nat.lt_of_lt_of_le f20.lt (Nat.le_trans (Nat.le_trans K28.1 K30.1) K32.1)) ge_bk36)) (ninS (Nat.ne_of_gt (Nat.lt_of_lt_of_le (Nat.lt_of_lt_of_le f2.lt K10.1) ge_r19)) nin0))))
        have f751 := f750.keep K727 (ninS (Nat.ne_of_gt (Nat.lt_of_lt_of_le f11.lt ge_r19)) nin0)
        have f752 := f137.keep K701 (ninS (Nat.ne_of_lt (Nat.lt_of_lt_of_le (Nat.lt_of_lt_of_le f20.lt (Nat.le_trans K28.1 K30.1)) G32)) (ninS (Nat.ne_of_lt (Nat.lt_of_lt_of_le (Nat.lt_of_lt_of_le f20.lt (Nat.le_trans (Nat.le_trans K28.1 K30.1) K32.1)) ge_io36)) (ninS (Nat.ne_of_lt (Nat.lt_of_lt_of_le (Nat.lt_of_lt_of_le f20.lt (Nat.le_trans (Nat.le_trans K28.1 K30.1) K32.1)) ge_bk36)) (ninS (Nat.ne_of_gt (Nat.lt_of_lt_of_le (Nat.lt_of_lt_of_le f2.lt K10.1) ge_r19)) nin0))))
        have f753 := f752.keep K727 (ninS (Nat.ne_of_gt (Nat.lt_of_lt_of_le f11.lt ge_r19)) nin0)
        have f754 := f141.keep K701 (ninS (Nat.ne_of_lt (Nat.lt_of_lt_of_le (Nat.lt_of_lt_of_le f20.lt (Nat.le_trans K28.1 K30.1)) G32)) (ninS (Nat.ne_of_lt (Nat.lt_of_lt_of_le (Nat.lt_of_lt_of_le f20.lt (Nat.le_trans (Nat.le_trans K28.1 K30.1) K32.1)) ge_io36)) (ninS (Nat.ne_of_lt (Nat.lt_of_lt_of_le (Nat.lt_of_lt_of_le f20.lt (Nat.le_trans (Nat.le_trans K28.1 K30.1) K32.1)) ge_bk36)) (ninS (Nat.ne_of_gt (Nat.lt_of_lt_of_le (Nat.lt_of_lt_of_le f2.lt K10.1) ge_r19)) nin0))))
        have f755 := f754.keep K727 (ninS (Nat.ne_of_gt (Nat.lt_of_lt_of_le f11.lt ge_r19)) nin0)
        have f756 := f145.keep K701
        have f757 := f756.keep K727
        have f758 := f149.keep K701 (ninS (Nat.ne_of_lt (Nat.lt_of_lt_of_le (Nat.lt_of_lt_of_le f25.lt (Nat.le_trans K28.1 K30.1)) G32)) (ninS (Nat.ne_of_lt (Nat.lt_of_lt_of_le (Nat.lt_of_lt_of_le f25.lt (Nat.le_trans (Nat.le_trans K28.1 K30.1) K32.1)) ge_io36)) (ninS (Nat.ne_of_lt (Nat.lt_of_lt_of_le (Nat.lt_of_lt_of_le f25.lt (Nat.le_trans (Nat.le_trans K28.1 K30.1) K32.1)) ge_bk36)) (ninS (ne_exa f757 f742 (by decide)) nin0))))
        have f760 := f719.keep K727
        have f759 := f758.keep K727 (ninS (ne_exa f757 f760 (by decide)) nin0)
        have X761 := own_svN X727 rfl f747 (Nat.le_trans (own_n0 X10) ge_r19) (Nat.le_trans (Nat.le_trans K1.1 K10.1) ge_r19)
        refine own_virt X761 96 (a := b32) (argsL := [(.ref r19)]) (rest := []) at_93 f732 (fun _ hZ => notFace_of_selects (args := #[]) (mvT hZ (ow hw 49 rfl))) (ro_1n l Z n0 h727 [] a0 hw hWd X761.old b32 bk36 io36 kb36 ki36 r19 t19 kt19 cs19 r701 r1 t1 kt1 cs1 f732 f733 f734 f735 f736 f737 f41 f43 f44 f738 f739 f740 f741 f742 f743 f744 f745 f18 f747 f749 f751 f753 f755 f757 f759 f27 (Nat.ne_of_gt (Nat.lt_of_lt_of_le (Nat.lt_of_lt_of_le f2.lt K10.1) ge_r19)) hc529 (own_svb X727 (om 4 rfl)) (own_svb X727 (om 3 rfl)) (own_svb X727 (om 2 rfl)) (own_svb X761 (om 0 rfl))) (ow hw 46 rfl) (ow hw 47 rfl) (ow hw 49 rfl) (ow hw 48 rfl) (ow hw 36 rfl) (ow hw 50 rfl) (by decide) (lenOf pd__28Ljava_2flang_2fString_3b_29Lcom_2fexample_2fratable_2fratable_2fcore_2fPosted_3b rfl) rfl rfl rfl (W := 0) rfl (by decide) (by decide) (by decide) (by decide) (allS (om 5 rfl) (allS (om 4 rfl) (allS (om 3 rfl) (allS (om 0 rfl) all0)))) rfl ?_
        intro T762 h762 v762 X762 K762 hQ762
        obtain ⟨r762, rfl, ge_r762, f763, f764, f765, f766, f767, f768, f769, f770, f771, f772, f773, f774, f775⟩ := hQ762
        show OGo _ _ _ _ T762 (mkF m 96 #[.val (.int pa), .val (.int pb), .val (.int pc), .val (.int pd), .val (.ref r1), .val (.ref r10), .val (.ref r19), .val (.int 3), .val (.ref b28), .val (.ref b30), .val (.ref b32), .val (.ref r701), .val (.ref r701), .val .null, .unset, .unset] [(.ref r762)])
        refine og_astore X762 98 #[.val (.int pa), .val (.int pb), .val (.int pc), .val (.int pd), .val (.ref r1), .val (.ref r10), .val (.ref r19), .val (.int 3), .val (.ref b28), .val (.ref b30), .val (.ref b32), .val (.ref r701), .val (.ref r701), .val (.ref r762), .unset, .unset] at_96 rfl rfl rfl ?_
        refine og_iconst X762 99 (0 : Int32) at_98 rfl rfl ?_
        refine og_istore X762 101 #[.val (.int pa), .val (.int pb), .val (.int pc), .val (.int pd), .val (.ref r1), .val (.ref r10), .val (.ref r19), .val (.int 3), .val (.ref b28), .val (.ref b30), .val (.ref b32), .val (.ref r701), .val (.ref r701), .val (.ref r762), .val (.int 0), .unset] at_99 rfl rfl ?_
        refine og_iload X762 103 at_101 rfl rfl ?_
        refine og_iconst X762 104 (1 : Int32) at_103 rfl rfl ?_
        refine og_icmpN X762 107 at_104 (XT.ii_lt_f (by decide)) rfl ?_
        refine og_aload X762 109 at_107 rfl rfl rfl ?_
        refine og_iload X762 111 at_109 rfl rfl ?_
        refine og_aload X762 113 at_111 rfl rfl rfl ?_
        have f776 := f152.keep K701 (ninS (Nat.ne_of_lt (Nat.lt_of_lt_of_le (Nat.lt_of_lt_of_le U28 K30.1) G32)) (ninS (Nat.ne_of_lt (Nat.lt_of_lt_of_le (Nat.lt_of_lt_of_le U28 (Nat.le_trans K30.1 K32.1)) ge_io36)) (ninS (Nat.ne_of_lt (Nat.lt_of_lt_of_le (Nat.lt_of_lt_of_le U28 (Nat.le_trans K30.1 K32.1)) ge_bk36)) (ninS (Nat.ne_of_gt (Nat.lt_of_lt_of_le (Nat.lt_of_lt_of_le f2.lt (Nat.le_trans K10.1 K19.1)) G28)) nin0))))
        have f777 := f776.keep K727 (ninS (Nat.ne_of_gt (Nat.lt_of_lt_of_le (Nat.lt_of_lt_of_le f11.lt K19.1) G28)) nin0)
        have f778 := f777.keep K762 (ninS (Nat.ne_of_lt (Nat.lt_of_lt_of_le (Nat.lt_of_lt_of_le U28 K30.1) G32)) (ninS (Nat.ne_of_lt (Nat.lt_of_lt_of_le (Nat.lt_of_lt_of_le U28 (Nat.le_trans K30.1 K32.1)) ge_io36)) (ninS (Nat.ne_of_lt (Nat.lt_of_lt_of_le (Nat.lt_of_lt_of_le U28 (Nat.le_trans K30.1 K32.1)) ge_bk36)) (ninS (Nat.ne_of_gt (Nat.lt_of_lt_of_le f20.lt G28)) nin0))))
        have f780 := f738.keep K762
        refine own_stR X762 114 at_113 f778 rfl rfl (own_sto f778 O28 (Ins.self f780)) (by decide) (by decide) (i := 0) (by decide) (Nat.le_of_ble_eq_true rfl) (om 7 rfl) rfl ?_
        intro T779 h779 X779 W779 K779 A779
        have f781 : Arv Z h779 b28 kb28 (.object "com/example/ratable/ratable/core/Posted") (3 : Int32) [(.ref r701), .null, .null] .null := A779
        refine og_aload X779 116 at_114 rfl rfl rfl ?_
        refine og_iload X779 118 at_116 rfl rfl ?_
        refine og_aload X779 120 at_118 rfl rfl rfl ?_
        have f782 := f154.keep K701 (ninS (Nat.ne_of_lt (Nat.lt_of_lt_of_le U30 G32)) (ninS (Nat.ne_of_lt (Nat.lt_of_lt_of_le (Nat.lt_of_lt_of_le U30 K32.1) ge_io36)) (ninS (Nat.ne_of_lt (Nat.lt_of_lt_of_le (Nat.lt_of_lt_of_le U30 K32.1) ge_bk36)) (ninS (Nat.ne_of_gt (Nat.lt_of_lt_of_le (Nat.lt_of_lt_of_le f2.lt (Nat.le_trans (Nat.le_trans K10.1 K19.1) K28.1)) G30)) nin0))))
        have f783 := f782.keep K727 (ninS (Nat.ne_of_gt (Nat.lt_of_lt_of_le (Nat.lt_of_lt_of_le f11.lt (Nat.le_trans K19.1 K28.1)) G30)) nin0)
        have f784 := f783.keep K762 (ninS (Nat.ne_of_lt (Nat.lt_of_lt_of_le U30 G32)) (ninS (Nat.ne_of_lt (Nat.lt_of_lt_of_le (Nat.lt_of_lt_of_le U30 K32.1) ge_io36)) (ninS (Nat.ne_of_lt (Nat.lt_of_lt_of_le (Nat.lt_of_lt_of_le U30 K32.1) ge_bk36)) (ninS (Nat.ne_of_gt (Nat.lt_of_lt_of_le (Nat.lt_of_lt_of_le f20.lt K28.1) G30)) nin0))))
        have f785 := f784.keep K779 (ninS (Nat.ne_of_gt (Nat.lt_of_lt_of_le U28 G30)) nin0)
        have f787 := f742.keep K762
        have f788 := f787.keep K779
        refine own_stR X779 121 at_120 f785 rfl rfl (own_sto f785 O30 (Ins.self f788)) (by decide) (by decide) (i := 0) (by decide) (Nat.le_of_ble_eq_true rfl) (om 6 rfl) rfl ?_
        intro T786 h786 X786 W786 K786 A786
        have f789 : Arv Z h786 b30 kb30 (.object "java/lang/String") (3 : Int32) [(.ref r1), .null, .null] .null := A786
        refine og_iinc X786 124 #[.val (.int pa), .val (.int pb), .val (.int pc), .val (.int pd), .val (.ref r1), .val (.ref r10), .val (.ref r19), .val (.int 3), .val (.ref b28), .val (.ref b30), .val (.ref b32), .val (.ref r701), .val (.ref r701), .val (.ref r762), .val (.int 1), .unset] at_121 rfl rfl rfl ?_
        refine og_iload X786 126 at_124 rfl rfl ?_
        refine og_iconst X786 127 (2 : Int32) at_126 rfl rfl ?_
        refine og_icmpN X786 130 at_127 (XT.ii_lt_f (by decide)) rfl ?_
        refine og_aload X786 132 at_130 rfl rfl rfl ?_
        refine og_aload X786 134 at_132 rfl rfl rfl ?_
        have f790 := f760.keep K762
        have f791 := f790.keep K779
        have f792 := f791.keep K786
        have f793 := f728.keep K762 (ninS (Nat.ne_of_lt (Nat.lt_of_lt_of_le (Nat.lt_of_lt_of_le f11.lt (Nat.le_trans (Nat.le_trans K19.1 K28.1) K30.1)) G32)) (ninS (Nat.ne_of_lt (Nat.lt_of_lt_of_le (Nat.lt_of_lt_of_le f11.lt (Nat.le_trans (Nat.le_trans (Nat.le_trans K19.1 K28.1) K30.1) K32.1)) ge_io36)) (ninS (Nat.ne_of_lt (Nat.lt_of_lt_of_le (Nat.lt_of_lt_of_le f11.lt (Nat.le_trans (Nat.le_trans (Nat.le_trans K19.1 K28.1) K30.1) K32.1)) ge_bk36)) (ninS (Nat.ne_of_lt (Nat.lt_of_lt_of_le f11.lt ge_r19)) nin0))))
        have f794 := f793.keep K779 (ninS (Nat.ne_of_lt (Nat.lt_of_lt_of_le (Nat.lt_of_lt_of_le f11.lt K19.1) G28)) nin0)
        have f795 := f794.keep K786 (ninS (Nat.ne_of_lt (Nat.lt_of_lt_of_le (Nat.lt_of_lt_of_le f11.lt (Nat.le_trans K19.1 K28.1)) G30)) nin0)
        have f796 := f729.keep K762 (ninS (Nat.ne_of_lt (Nat.lt_of_lt_of_le (Nat.lt_of_lt_of_le f11.lt (Nat.le_trans (Nat.le_trans K19.1 K28.1) K30.1)) G32)) (ninS (Nat.ne_of_lt (Nat.lt_of_lt_of_le (Nat.lt_of_lt_of_le f11.lt (Nat.le_trans (Nat.le_trans (Nat.le_trans K19.1 K28.1) K30.1) K32.1)) ge_io36)) (ninS (Nat.ne_of_lt (Nat.lt_of_lt_of_le (Nat.lt_of_lt_of_le f11.lt (Nat.le_trans (Nat.le_trans (Nat.le_trans K19.1 K28.1) K30.1) K32.1)) ge_bk36)) (ninS (Nat.ne_of_lt (Nat.lt_of_lt_of_le f11.lt ge_r19)) nin0))))
        have f797 := f796.keep K779 (ninS (Nat.ne_of_lt (Nat.lt_of_lt_of_le (Nat.lt_of_lt_of_le f11.lt K19.1) G28)) nin0)
        have f798 := f797.keep K786 (ninS (Nat.ne_of_lt (Nat.lt_of_lt_of_le (Nat.lt_of_lt_of_le f11.lt (Nat.le_trans K19.1 K28.1)) G30)) nin0)
        have f800 := f724.keep K727
        have f801 := f800.keep K762
        have f802 := f801.keep K779
        have f803 := f802.keep K786
        have f799 := f725.keep K727 (ninS (ne_exa f803 f792 (by decide)) nin0)
        have f804 := f799.keep K762 (ninS (Nat.ne_of_lt (Nat.lt_of_lt_of_le (Nat.lt_of_lt_of_le f16.lt (Nat.le_trans (Nat.le_trans K19.1 K28.1) K30.1)) G32)) (ninS (Nat.ne_of_lt (Nat.lt_of_lt_of_le (Nat.lt_of_lt_of_le f16.lt (Nat.le_trans (Nat.le_trans (Nat.le_trans K19.1 K28.1) K30.1) K32.1)) ge_io36)) (ninS (Nat.ne_of_lt (Nat.lt_of_lt_of_le (Nat.lt_of_lt_of_le f16.lt (Nat.le_trans (Nat.le_trans (Nat.le_trans K19.1 K28.1) K30.1) K32.1)) ge_bk36)) (ninS (Nat.ne_of_lt (Nat.lt_of_lt_of_le f16.lt ge_r19)) nin0))))
        have f805 := f804.keep K779 (ninS (Nat.ne_of_lt (Nat.lt_of_lt_of_le (Nat.lt_of_lt_of_le f16.lt K19.1) G28)) nin0)
        have f806 := f805.keep K786 (ninS (Nat.ne_of_lt (Nat.lt_of_lt_of_le (Nat.lt_of_lt_of_le f16.lt (Nat.le_trans K19.1 K28.1)) G30)) nin0)
        have f807 := own_rawS f792 f795 f798 f806 f18
        have f808 := f788.keep K786
        have f809 := f743.keep K762 (ninS (Nat.ne_of_lt (Nat.lt_of_lt_of_le (Nat.lt_of_lt_of_le f2.lt (Nat.le_trans (Nat.le_trans (Nat.le_trans K10.1 K19.1) K28.1) K30.1)) G32)) (ninS (Nat.ne_of_lt (Nat.lt_of_lt_of_le (Nat.lt_of_lt_of_le f2.lt (Nat.le_trans (Nat.le_trans (Nat.le_trans (Nat.le_trans K10.1 K19.1) K28.1) K30.1) K32.1)) ge_io36)) (ninS (Nat.ne_of_lt (Nat.lt_of_lt_of_le (Nat.lt_of_lt_of_le f2.lt (Nat.le_trans (Nat.le_trans (Nat.le_trans (Nat.le_trans K10.1 K19.1) K28.1) K30.1) K32.1)) ge_bk36)) (ninS (Nat.ne_of_lt (Nat.lt_of_lt_of_le (Nat.lt_of_lt_of_le f2.lt K10.1) ge_r19)) nin0))))
        have f810 := f809.keep K779 (ninS (Nat.ne_of_lt (Nat.lt_of_lt_of_le (Nat.lt_of_lt_of_le f2.lt (Nat.le_trans K10.1 K19.1)) G28)) nin0)
        have f811 := f810.keep K786 (ninS (Nat.ne_of_lt (Nat.lt_of_lt_of_le (Nat.lt_of_lt_of_le f2.lt (Nat.le_trans (Nat.le_trans K10.1 K19.1) K28.1)) G30)) nin0)
        have f812 := f744.keep K762 (ninS (Nat.ne_of_lt (Nat.lt_of_lt_of_le (Nat.lt_of_lt_of_le f2.lt (Nat.le_trans (Nat.le_trans (Nat.le_trans K10.1 K19.1) K28.1) K30.1)) G32)) (ninS (Nat.ne_of_lt (Nat.lt_of_lt_of_le (Nat.lt_of_lt_of_le f2.lt (Nat.le_trans (Nat.le_trans (Nat.le_trans (Nat.le_trans K10.1 K19.1) K28.1) K30.1) K32.1)) ge_io36)) (ninS (Nat.ne_of_lt (Nat.lt_of_lt_of_le (Nat.lt_of_lt_of_le f2.lt (Nat.le_trans (Nat.le_trans (Nat.le_trans (Nat.le_trans K10.1 K19.1) K28.1) K30.1) K32.1)) ge_bk36)) (ninS (Nat.ne_of_lt (Nat.lt_of_lt_of_le (Nat.lt_of_lt_of_le f2.lt K10.1) ge_r19)) nin0))))
        have f813 := f812.keep K779 (ninS (Nat.ne_of_lt (Nat.lt_of_lt_of_le (Nat.lt_of_lt_of_le f2.lt (Nat.le_trans K10.1 K19.1)) G28)) nin0)
        have f814 := f813.keep K786 (ninS (Nat.ne_of_lt (Nat.lt_of_lt_of_le (Nat.lt_of_lt_of_le f2.lt (Nat.le_trans (Nat.le_trans K10.1 K19.1) K28.1)) G30)) nin0)
        have f815 := f745.keep K762 (ninS (Nat.ne_of_lt (Nat.lt_of_lt_of_le (Nat.lt_of_lt_of_le f7.lt (Nat.le_trans (Nat.le_trans (Nat.le_trans K10.1 K19.1) K28.1) K30.1)) G32)) (ninS (Nat.ne_of_lt (Nat.lt_of_lt_of_le (Nat.lt_of_lt_of_le f7.lt (Nat.le_trans (Nat.le_trans (Nat.le_trans (Nat.le_trans K10.1 K19.1) K28.1) K30.1) K32.1)) ge_io36)) (ninS (Nat.ne_of_lt (Nat.lt_of_lt_of_le (Nat.lt_of_lt_of_le f7.lt (Nat.le_trans (Nat.le_trans (Nat.le_trans (Nat.le_trans K10.1 K19.1) K28.1) K30.1) K32.1)) ge_bk36)) (ninS (Nat.ne_of_lt (Nat.lt_of_lt_of_le (Nat.lt_of_lt_of_le f7.lt K10.1) ge_r19)) nin0))))
        have f816 := f815.keep K779 (ninS (Nat.ne_of_lt (Nat.lt_of_lt_of_le (Nat.lt_of_lt_of_le f7.lt (Nat.le_trans K10.1 K19.1)) G28)) nin0)
        have f817 := f816.keep K786 (ninS (Nat.ne_of_lt (Nat.lt_of_lt_of_le (Nat.lt_of_lt_of_le f7.lt (Nat.le_trans (Nat.le_trans K10.1 K19.1) K28.1)) G30)) nin0)
        have f818 := own_rawS f808 f811 f814 f817 f18
        refine own_strEq X786 137 at_134 f807 f818 (own_wE hw) (ow hw 14 rfl) hWd.2.1 hWd.2.2 (ow hw 144 rfl) (ow hw 145 rfl) (ow hw 147 rfl) (ow hw 146 rfl) rfl (W := 0) rfl (by decide) (by decide) (by decide) (by decide) rfl ?_
        intro T819 X820
        refine og_ifY X820 157 at_137 (XT.i0_ne_t (own_eqbS _)) (by decide) (by decide) ?_
        refine og_iload X820 159 at_157 rfl rfl ?_
        refine og_iconst X820 160 (3 : Int32) at_159 rfl rfl ?_
        refine og_icmpN X820 163 at_160 (XT.ii_lt_f (by decide)) rfl ?_
        refine og_aload X820 165 at_163 rfl rfl rfl ?_
        refine og_aload X820 167 at_165 rfl rfl rfl ?_
        have f821 := f747.keep K762
        have f822 := f821.keep K779
        have f823 := f822.keep K786
        have f824 := f772.keep K779 (ninS (Nat.ne_of_lt (Nat.lt_of_lt_of_le f20.lt G28)) nin0)
        have f825 := f824.keep K786 (ninS (Nat.ne_of_lt (Nat.lt_of_lt_of_le (Nat.lt_of_lt_of_le f20.lt K28.1) G30)) nin0)
        have f826 := f773.keep K779 (ninS (Nat.ne_of_lt (Nat.lt_of_lt_of_le f20.lt G28)) nin0)
        have f827 := f826.keep K786 (ninS (Nat.ne_of_lt (Nat.lt_of_lt_of_le (Nat.lt_of_lt_of_le f20.lt K28.1) G30)) nin0)
        have f829 := f757.keep K762
        have f830 := f829.keep K779
        have f831 := f830.keep K786
        have f828 := f759.keep K762 (ninS (Nat.ne_of_lt (Nat.lt_of_lt_of_le (Nat.lt_of_lt_of_le f25.lt (Nat.le_trans K28.1 K30.1)) G32)) (ninS (Nat.ne_of_lt (Nat.lt_of_lt_of_le (Nat.lt_of_lt_of_le f25.lt (Nat.le_trans (Nat.le_trans K28.1 K30.1) K32.1)) ge_io36)) (ninS (Nat.ne_of_lt (Nat.lt_of_lt_of_le (Nat.lt_of_lt_of_le f25.lt (Nat.le_trans (Nat.le_trans K28.1 K30.1) K32.1)) ge_bk36)) (ninS (ne_exa f831 f823 (by decide)) nin0))))
        have f832 := f828.keep K779 (ninS (Nat.ne_of_lt (Nat.lt_of_lt_of_le f25.lt G28)) nin0)
        have f833 := f832.keep K786 (ninS (Nat.ne_of_lt (Nat.lt_of_lt_of_le (Nat.lt_of_lt_of_le f25.lt K28.1) G30)) nin0)
        have f834 := own_rawS f823 f825 f827 f833 f27
        have f835 := own_rawS f808 f811 f814 f817 f18
        refine own_strEq X820 170 at_167 f834 f835 (own_wE hw) (ow hw 14 rfl) hWd.2.1 hWd.2.2 (ow hw 144 rfl) (ow hw 145 rfl) (ow hw 147 rfl) (ow hw 146 rfl) rfl (W := 0) rfl (by decide) (by decide) (by decide) (by decide) rfl ?_
        intro T836 X837
        refine og_ifN X837 173 at_170 (XT.i0_ne_f (own_eqb0.mpr (fun q => hc529 q.symm))) rfl ?_
        refine og_aload X837 175 at_173 rfl rfl rfl ?_
        refine og_aload X837 177 at_175 rfl rfl rfl ?_
        have f838 := own_rawS f823 f825 f827 f833 f27
        have f839 := own_rawS f792 f795 f798 f806 f18
        refine own_strEq X837 180 at_177 f838 f839 (own_wE hw) (ow hw 14 rfl) hWd.2.1 hWd.2.2 (ow hw 144 rfl) (ow hw 145 rfl) (ow hw 147 rfl) (ow hw 146 rfl) rfl (W := 0) rfl (by decide) (by decide) (by decide) (by decide) rfl ?_
        intro T840 X841
        refine og_ifN X841 183 at_180 (XT.i0_ne_f (own_eqb0.mpr (fun q => hc529 q.symm))) rfl ?_
        refine og_aload X841 185 at_183 rfl rfl rfl ?_
        refine og_iload X841 187 at_185 rfl rfl ?_
        refine og_aload X841 189 at_187 rfl rfl rfl ?_
        have f842 := f781.keep K786 (ninS (Nat.ne_of_lt (Nat.lt_of_lt_of_le U28 G30)) nin0)
        have f844 := f768.keep K779
        have f845 := f844.keep K786
        refine own_stR X841 190 at_189 f842 rfl rfl (own_sto f842 O28 (Ins.self f845)) (by decide) (by decide) (i := 1) (by decide) (Nat.le_of_ble_eq_true rfl) (om 7 rfl) rfl ?_
        intro T843 h843 X843 W843 K843 A843
        have f846 : Arv Z h843 b28 kb28 (.object "com/example/ratable/ratable/core/Posted") (3 : Int32) [(.ref r701), (.ref r762), .null] .null := A843
        refine og_aload X843 192 at_190 rfl rfl rfl ?_
        refine og_iload X843 194 at_192 rfl rfl ?_
        refine og_aload X843 196 at_194 rfl rfl rfl ?_
        have f847 := f789.keep K843 (ninS (Nat.ne_of_gt (Nat.lt_of_lt_of_le U28 G30)) nin0)
        have f849 := f823.keep K843
        refine own_stR X843 197 at_196 f847 rfl rfl (own_sto f847 O30 (Ins.self f849)) (by decide) (by decide) (i := 1) (by decide) (Nat.le_of_ble_eq_true rfl) (om 6 rfl) rfl ?_
        intro T848 h848 X848 W848 K848 A848
        have f850 : Arv Z h848 b30 kb30 (.object "java/lang/String") (3 : Int32) [(.ref r1), (.ref r19), .null] .null := A848
        refine og_iinc X848 200 #[.val (.int pa), .val (.int pb), .val (.int pc), .val (.int pd), .val (.ref r1), .val (.ref r10), .val (.ref r19), .val (.int 3), .val (.ref b28), .val (.ref b30), .val (.ref b32), .val (.ref r701), .val (.ref r701), .val (.ref r762), .val (.int 2), .unset] at_197 rfl rfl rfl ?_
        refine og_aload X848 202 at_200 rfl rfl rfl ?_
        have f851 := f732.keep K762
        have f852 := f851.keep K779
        have f853 := f852.keep K786
        have f854 := f853.keep K843
        have f855 := f854.keep K848
        have f856 := f765.keep K779 (ninS (Nat.ne_of_gt (Nat.lt_of_lt_of_le (Nat.lt_of_lt_of_le U28 K30.1) G32)) nin0)
        have f857 := f856.keep K786 (ninS (Nat.ne_of_gt (Nat.lt_of_lt_of_le U30 G32)) nin0)
        have f858 := f857.keep K843 (ninS (Nat.ne_of_gt (Nat.lt_of_lt_of_le (Nat.lt_of_lt_of_le U28 K30.1) G32)) nin0)
        have f859 := f858.keep K848 (ninS (Nat.ne_of_gt (Nat.lt_of_lt_of_le U30 G32)) nin0)
        refine own_virt X848 205 (a := b32) (argsL := []) (rest := []) at_202 f855 (fun _ hZ => notFace_of_selects (args := #[]) (mvT hZ (ow hw 125 rfl))) (rm18 l Z n0 h848 [] a0 hw hWd X848.old b32 (2 : Int32) f859 ) (ow hw 122 rfl) (ow hw 123 rfl) (ow hw 125 rfl) (ow hw 124 rfl) (ow hw 36 rfl) (ow hw 126 rfl) (by decide) (lenOf pd__28_29I rfl) rfl rfl rfl (W := 0) rfl (by decide) (by decide) (by decide) (by decide) all0 rfl ?_
        intro T860 h860 v860 X860 K860 hQ860
        obtain rfl := hQ860
        show OGo _ _ _ _ T860 (mkF m 205 #[.val (.int pa), .val (.int pb), .val (.int pc), .val (.int pd), .val (.ref r1), .val (.ref r10), .val (.ref r19), .val (.int 3), .val (.ref b28), .val (.ref b30), .val (.ref b32), .val (.ref r701), .val (.ref r701), .val (.ref r762), .val (.int 2), .unset] [(.int 2)])
        refine og_iload X860 207 at_205 rfl rfl ?_
        refine og_icmpY X860 212 at_207 (XT.ii_eq_t (by decide)) (by decide) (by decide) ?_
        refine og_iconst X860 213 (1 : Int32) at_212 rfl rfl ?_
        refine og_istore X860 215 #[.val (.int pa), .val (.int pb), .val (.int pc), .val (.int pd), .val (.ref r1), .val (.ref r10), .val (.ref r19), .val (.int 3), .val (.ref b28), .val (.ref b30), .val (.ref b32), .val (.ref r701), .val (.ref r701), .val (.ref r762), .val (.int 2), .val (.int 1)] at_213 rfl rfl ?_
        refine og_iload X860 217 at_215 rfl rfl ?_
        refine og_iconst X860 218 (1 : Int32) at_217 rfl rfl ?_
        refine og_icmpN X860 221 at_218 (XT.ii_lt_f (by decide)) rfl ?_
        refine og_iload X860 223 at_221 rfl rfl ?_
        refine og_ifN X860 226 at_223 (XT.i0_eq_f (by decide)) rfl ?_
        refine og_aload X860 228 at_226 rfl rfl rfl ?_
        refine og_iconst X860 229 (0 : Int32) at_228 rfl rfl ?_
        have f861 := f855.keep K860
        have f862 := f859.keep K860 nin0
        have f863 := f764.keep K779 (ninS (Nat.ne_of_gt (Nat.lt_of_lt_of_le (Nat.lt_of_lt_of_le U28 K30.1) G32)) nin0)
        have f864 := f863.keep K786 (ninS (Nat.ne_of_gt (Nat.lt_of_lt_of_le U30 G32)) nin0)
        have f865 := f864.keep K843 (ninS (Nat.ne_of_gt (Nat.lt_of_lt_of_le (Nat.lt_of_lt_of_le U28 K30.1) G32)) nin0)
        have f866 := f865.keep K848 (ninS (Nat.ne_of_gt (Nat.lt_of_lt_of_le U30 G32)) nin0)
        have f867 := f866.keep K860 nin0
        have f868 := f767.keep K779 (ninS (Nat.ne_of_gt (Nat.lt_of_lt_of_le (Nat.lt_of_lt_of_le U28 (Nat.le_trans K30.1 K32.1)) ge_io36)) nin0)
        have f869 := f868.keep K786 (ninS (Nat.ne_of_gt (Nat.lt_of_lt_of_le (Nat.lt_of_lt_of_le U30 K32.1) ge_io36)) nin0)
        have f870 := f869.keep K843 (ninS (Nat.ne_of_gt (Nat.lt_of_lt_of_le (Nat.lt_of_lt_of_le U28 (Nat.le_trans K30.1 K32.1)) ge_io36)) nin0)
        have f871 := f870.keep K848 (ninS (Nat.ne_of_gt (Nat.lt_of_lt_of_le (Nat.lt_of_lt_of_le U30 K32.1) ge_io36)) nin0)
        have f872 := f871.keep K860 nin0
        refine own_virt X860 232 (a := b32) (argsL := [(.int 0)]) (rest := []) at_229 f861 (fun _ hZ => notFace_of_selects (args := #[]) (mvT hZ (ow hw 130 rfl))) (rt_20 l Z n0 h860 [] a0 hw hWd X860.old b32 io36 ki36 r701 r762 f862 f867 f872 ) (ow hw 127 rfl) (ow hw 128 rfl) (ow hw 130 rfl) (ow hw 129 rfl) (ow hw 36 rfl) (ow hw 131 rfl) (by decide) (lenOf pd__28I_29Lcom_2fexample_2fratable_2fratable_2fcore_2fPosted_3b rfl) rfl rfl rfl (W := 0) rfl (by decide) (by decide) (by decide) (by decide) all0 rfl ?_
        intro T873 h873 v873 X873 K873 hQ873
        obtain rfl := hQ873
        show OGo _ _ _ _ T873 (mkF m 232 #[.val (.int pa), .val (.int pb), .val (.int pc), .val (.int pd), .val (.ref r1), .val (.ref r10), .val (.ref r19), .val (.int 3), .val (.ref b28), .val (.ref b30), .val (.ref b32), .val (.ref r701), .val (.ref r701), .val (.ref r762), .val (.int 2), .val (.int 1)] [(.ref r701)])
        refine og_aload X873 234 at_232 rfl rfl rfl ?_
        refine og_iconst X873 235 (0 : Int32) at_234 rfl rfl ?_
        have f874 := f846.keep K848 (ninS (Nat.ne_of_lt (Nat.lt_of_lt_of_le U28 G30)) nin0)
        have f875 := f874.keep K860 nin0
        have f876 := f875.keep K873 nin0
        refine own_ldR X873 236 at_235 f876 rfl (by decide) (by decide) rfl rfl ?_
        refine og_aload X873 238 at_236 rfl rfl rfl ?_
        refine og_iconst X873 239 (0 : Int32) at_238 rfl rfl ?_
        have f877 := f850.keep K860 nin0
        have f878 := f877.keep K873 nin0
        refine own_ldR X873 240 at_239 f878 rfl (by decide) (by decide) rfl rfl ?_
        have f879 := f739.keep K762 (ninS (Nat.ne_of_gt (Nat.lt_of_lt_of_le (Nat.lt_of_lt_of_le U32 K36.1) ge_r701)) (ninS (Nat.ne_of_gt (Nat.lt_of_lt_of_le f42.lt ge_r701)) (ninS (Nat.ne_of_gt (Nat.lt_of_lt_of_le f40.lt ge_r701)) (ninS (Nat.ne_of_gt (Nat.lt_of_lt_of_le (Nat.lt_of_lt_of_le f20.lt (Nat.le_trans (Nat.le_trans (Nat.le_trans K28.1 K30.1) K32.1) K36.1)) ge_r701)) nin0))))
        have f880 := f879.keep K779 (ninS (Nat.ne_of_gt (Nat.lt_of_lt_of_le (Nat.lt_of_lt_of_le U28 (Nat.le_trans (Nat.le_trans K30.1 K32.1) K36.1)) ge_r701)) nin0)
        have f881 := f880.keep K786 (ninS (Nat.ne_of_gt (Nat.lt_of_lt_of_le (Nat.lt_of_lt_of_le U30 (Nat.le_trans K32.1 K36.1)) ge_r701)) nin0)
        have f882 := f881.keep K843 (ninS (Nat.ne_of_gt (Nat.lt_of_lt_of_le (Nat.lt_of_lt_of_le U28 (Nat.le_trans (Nat.le_trans K30.1 K32.1) K36.1)) ge_r701)) nin0)
        have f883 := f882.keep K848 (ninS (Nat.ne_of_gt (Nat.lt_of_lt_of_le (Nat.lt_of_lt_of_le U30 (Nat.le_trans K32.1 K36.1)) ge_r701)) nin0)
        have f884 := f883.keep K860 nin0
        have f885 := f884.keep K873 nin0
        have f886 := f808.keep K843
        have f887 := f886.keep K848
        have f888 := f887.keep K860
        have f889 := f888.keep K873
        have f890 := f811.keep K843 (ninS (Nat.ne_of_lt (Nat.lt_of_lt_of_le (Nat.lt_of_lt_of_le f2.lt (Nat.le_trans K10.1 K19.1)) G28)) nin0)
        have f891 := f890.keep K848 (ninS (Nat.ne_of_lt (Nat.lt_of_lt_of_le (Nat.lt_of_lt_of_le f2.lt (Nat.le_trans (Nat.le_trans K10.1 K19.1) K28.1)) G30)) nin0)
        have f892 := f891.keep K860 nin0
        have f893 := f892.keep K873 nin0
        have f894 := f814.keep K843 (ninS (Nat.ne_of_lt (Nat.lt_of_lt_of_le (Nat.lt_of_lt_of_le f2.lt (Nat.le_trans K10.1 K19.1)) G28)) nin0)
        have f895 := f894.keep K848 (ninS (Nat.ne_of_lt (Nat.lt_of_lt_of_le (Nat.lt_of_lt_of_le f2.lt (Nat.le_trans (Nat.le_trans K10.1 K19.1) K28.1)) G30)) nin0)
        have f896 := f895.keep K860 nin0
        have f897 := f896.keep K873 nin0
        have f898 := f817.keep K843 (ninS (Nat.ne_of_lt (Nat.lt_of_lt_of_le (Nat.lt_of_lt_of_le f7.lt (Nat.le_trans K10.1 K19.1)) G28)) nin0)
        have f899 := f898.keep K848 (ninS (Nat.ne_of_lt (Nat.lt_of_lt_of_le (Nat.lt_of_lt_of_le f7.lt (Nat.le_trans (Nat.le_trans K10.1 K19.1) K28.1)) G30)) nin0)
        have f900 := f899.keep K860 nin0
        have f901 := f900.keep K873 nin0
        refine own_stat X873 243 (argsL := [(.ref r701), (.ref r701), (.ref r1)]) (rest := []) at_240 (rm22 l Z n0 h873 [] a0 hw hWd X873.old r701 r1 t1 kt1 cs1 f885 f889 f893 f897 f901 f18 ) (ow hw 140 rfl) (ow hw 141 rfl) (ow hw 2 rfl) (ow hw 142 rfl) (by decide) (lenOf pd__28Lcom_2fexample_2fratable_2fratable_2fcore_2fPosted_3bLcom_2fexample_2fratable_2fratable_2fcore_2fPosted_3bLjava_2flang_2fString_3b_29Z rfl) rfl rfl rfl (W := 0) rfl (by decide) (by decide) (by decide) (by decide) all0 rfl ?_
        intro T902 h902 v902 X902 K902 hQ902
        obtain rfl := hQ902
        show OGo _ _ _ _ T902 (mkF m 243 #[.val (.int pa), .val (.int pb), .val (.int pc), .val (.int pd), .val (.ref r1), .val (.ref r10), .val (.ref r19), .val (.int 3), .val (.ref b28), .val (.ref b30), .val (.ref b32), .val (.ref r701), .val (.ref r701), .val (.ref r762), .val (.int 2), .val (.int 1)] [(.int 1)])
        refine og_ifN X902 246 at_243 (XT.i0_eq_f (by decide)) rfl ?_
        refine og_iconst X902 247 (1 : Int32) at_246 rfl rfl ?_
        refine og_goto X902 251 at_247 (by decide) (by decide) ?_
        refine og_istore X902 253 #[.val (.int pa), .val (.int pb), .val (.int pc), .val (.int pd), .val (.ref r1), .val (.ref r10), .val (.ref r19), .val (.int 3), .val (.ref b28), .val (.ref b30), .val (.ref b32), .val (.ref r701), .val (.ref r701), .val (.ref r762), .val (.int 2), .val (.int 1)] at_251 rfl rfl ?_
        refine og_iload X902 255 at_253 rfl rfl ?_
        refine og_iconst X902 256 (2 : Int32) at_255 rfl rfl ?_
        refine og_icmpN X902 259 at_256 (XT.ii_lt_f (by decide)) rfl ?_
        refine og_iload X902 261 at_259 rfl rfl ?_
        refine og_ifN X902 264 at_261 (XT.i0_eq_f (by decide)) rfl ?_
        refine og_aload X902 266 at_264 rfl rfl rfl ?_
        refine og_iconst X902 267 (1 : Int32) at_266 rfl rfl ?_
        have f903 := f861.keep K873
        have f904 := f903.keep K902
        have f905 := f862.keep K873 nin0
        have f906 := f905.keep K902 nin0
        have f907 := f867.keep K873 nin0
        have f908 := f907.keep K902 nin0
        have f909 := f872.keep K873 nin0
        have f910 := f909.keep K902 nin0
        refine own_virt X902 270 (a := b32) (argsL := [(.int 1)]) (rest := []) at_267 f904 (fun _ hZ => notFace_of_selects (args := #[]) (mvT hZ (ow hw 130 rfl))) (rt_21 l Z n0 h902 [] a0 hw hWd X902.old b32 io36 ki36 r701 r762 f906 f908 f910 ) (ow hw 127 rfl) (ow hw 128 rfl) (ow hw 130 rfl) (ow hw 129 rfl) (ow hw 36 rfl) (ow hw 131 rfl) (by decide) (lenOf pd__28I_29Lcom_2fexample_2fratable_2fratable_2fcore_2fPosted_3b rfl) rfl rfl rfl (W := 0) rfl (by decide) (by decide) (by decide) (by decide) all0 rfl ?_
        intro T911 h911 v911 X911 K911 hQ911
        obtain rfl := hQ911
        show OGo _ _ _ _ T911 (mkF m 270 #[.val (.int pa), .val (.int pb), .val (.int pc), .val (.int pd), .val (.ref r1), .val (.ref r10), .val (.ref r19), .val (.int 3), .val (.ref b28), .val (.ref b30), .val (.ref b32), .val (.ref r701), .val (.ref r701), .val (.ref r762), .val (.int 2), .val (.int 1)] [(.ref r762)])
        refine og_aload X911 272 at_270 rfl rfl rfl ?_
        refine og_iconst X911 273 (1 : Int32) at_272 rfl rfl ?_
        have f912 := f876.keep K902 nin0
        have f913 := f912.keep K911 nin0
        refine own_ldR X911 274 at_273 f913 rfl (by decide) (by decide) rfl rfl ?_
        refine og_aload X911 276 at_274 rfl rfl rfl ?_
        refine og_iconst X911 277 (1 : Int32) at_276 rfl rfl ?_
        have f914 := f878.keep K902 nin0
        have f915 := f914.keep K911 nin0
        refine own_ldR X911 278 at_277 f915 rfl (by decide) (by decide) rfl rfl ?_
        have f916 := f769.keep K779 (ninS (Nat.ne_of_gt (Nat.lt_of_lt_of_le (Nat.lt_of_lt_of_le U28 (Nat.le_trans (Nat.le_trans (Nat.le_trans (Nat.le_trans K30.1 K32.1) K36.1) K701.1) K727.1)) ge_r762)) nin0)
        have f917 := f916.keep K786 (ninS (Nat.ne_of_gt (Nat.lt_of_lt_of_le (Nat.lt_of_lt_of_le U30 (Nat.le_trans (Nat.le_trans (Nat.le_trans K32.1 K36.1) K701.1) K727.1)) ge_r762)) nin0)
        have f918 := f917.keep K843 (ninS (Nat.ne_of_gt (Nat.lt_of_lt_of_le (Nat.lt_of_lt_of_le U28 (Nat.le_trans (Nat.le_trans (Nat.le_trans (Nat.le_trans K30.1 K32.1) K36.1) K701.1) K727.1)) ge_r762)) nin0)
        have f919 := f918.keep K848 (ninS (Nat.ne_of_gt (Nat.lt_of_lt_of_le (Nat.lt_of_lt_of_le U30 (Nat.le_trans (Nat.le_trans (Nat.le_trans K32.1 K36.1) K701.1) K727.1)) ge_r762)) nin0)
        have f920 := f919.keep K860 nin0
        have f921 := f920.keep K873 nin0
        have f922 := f921.keep K902 nin0
        have f923 := f922.keep K911 nin0
        have f924 := f849.keep K848
        have f925 := f924.keep K860
        have f926 := f925.keep K873
        have f927 := f926.keep K902
        have f928 := f927.keep K911
        have f929 := f825.keep K843 (ninS (Nat.ne_of_lt (Nat.lt_of_lt_of_le f20.lt G28)) nin0)
        have f930 := f929.keep K848 (ninS (Nat.ne_of_lt (Nat.lt_of_lt_of_le (Nat.lt_of_lt_of_le f20.lt K28.1) G30)) nin0)
        have f931 := f930.keep K860 nin0
        have f932 := f931.keep K873 nin0
        have f933 := f932.keep K902 nin0
        have f934 := f933.keep K911 nin0
        have f935 := f827.keep K843 (ninS (Nat.ne_of_lt (Nat.lt_of_lt_of_le f20.lt G28)) nin0)
        have f936 := f935.keep K848 (ninS (Nat.ne_of_lt (Nat.lt_of_lt_of_le (Nat.lt_of_lt_of_le f20.lt K28.1) G30)) nin0)
        have f937 := f936.keep K860 nin0
        have f938 := f937.keep K873 nin0
        have f939 := f938.keep K902 nin0
        have f940 := f939.keep K911 nin0
        have f941 := f833.keep K843 (ninS (Nat.ne_of_lt (Nat.lt_of_lt_of_le f25.lt G28)) nin0)
        have f942 := f941.keep K848 (ninS (Nat.ne_of_lt (Nat.lt_of_lt_of_le (Nat.lt_of_lt_of_le f25.lt K28.1) G30)) nin0)
        have f943 := f942.keep K860 nin0
        have f944 := f943.keep K873 nin0
        have f945 := f944.keep K902 nin0
        have f946 := f945.keep K911 nin0
        refine own_stat X911 281 (argsL := [(.ref r762), (.ref r762), (.ref r19)]) (rest := []) at_278 (rm22 l Z n0 h911 [] a0 hw hWd X911.old r762 r19 t19 kt19 cs19 f923 f928 f934 f940 f946 f27 ) (ow hw 140 rfl) (ow hw 141 rfl) (ow hw 2 rfl) (ow hw 142 rfl) (by decide) (lenOf pd__28Lcom_2fexample_2fratable_2fratable_2fcore_2fPosted_3bLcom_2fexample_2fratable_2fratable_2fcore_2fPosted_3bLjava_2flang_2fString_3b_29Z rfl) rfl rfl rfl (W := 0) rfl (by decide) (by decide) (by decide) (by decide) all0 rfl ?_
        intro T947 h947 v947 X947 K947 hQ947
        obtain rfl := hQ947
        show OGo _ _ _ _ T947 (mkF m 281 #[.val (.int pa), .val (.int pb), .val (.int pc), .val (.int pd), .val (.ref r1), .val (.ref r10), .val (.ref r19), .val (.int 3), .val (.ref b28), .val (.ref b30), .val (.ref b32), .val (.ref r701), .val (.ref r701), .val (.ref r762), .val (.int 2), .val (.int 1)] [(.int 1)])
        refine og_ifN X947 284 at_281 (XT.i0_eq_f (by decide)) rfl ?_
        refine og_iconst X947 285 (1 : Int32) at_284 rfl rfl ?_
        refine og_goto X947 289 at_285 (by decide) (by decide) ?_
        refine og_istore X947 291 #[.val (.int pa), .val (.int pb), .val (.int pc), .val (.int pd), .val (.ref r1), .val (.ref r10), .val (.ref r19), .val (.int 3), .val (.ref b28), .val (.ref b30), .val (.ref b32), .val (.ref r701), .val (.ref r701), .val (.ref r762), .val (.int 2), .val (.int 1)] at_289 rfl rfl ?_
        refine og_iload X947 293 at_291 rfl rfl ?_
        refine og_iconst X947 294 (3 : Int32) at_293 rfl rfl ?_
        refine og_icmpY X947 329 at_294 (XT.ii_lt_t (by decide)) (by decide) (by decide) ?_
        refine og_iload X947 331 at_329 rfl rfl ?_
        refine own_retZ X947 at_331 hret rfl (by decide) (by decide) ?_
        exact rfl
    · -- not
      by_cases hc948 : cs1 = cs19
      · -- cs1 = cs19
        subst hc948
        refine og_iload X36 55 at_53 rfl rfl ?_
        refine og_iconst X36 56 (1 : Int32) at_55 rfl rfl ?_
        refine og_icmpN X36 59 at_56 (XT.ii_lt_f (by decide)) rfl ?_
        refine og_aload X36 61 at_59 rfl rfl rfl ?_
        refine og_aload X36 63 at_61 rfl rfl rfl ?_
        have X949 := own_svA X36 f42 (by decide) (Nat.le_trans (own_n0 X32) ge_io36) (Nat.le_trans (Nat.le_trans (Nat.le_trans (Nat.le_trans (Nat.le_trans (Nat.le_trans K1.1 K10.1) K19.1) K28.1) K30.1) K32.1) ge_io36)
        have X950 := own_svA X949 f40 (by decide) (Nat.le_trans (own_n0 X32) ge_bk36) (Nat.le_trans (Nat.le_trans (Nat.le_trans (Nat.le_trans (Nat.le_trans (Nat.le_trans K1.1 K10.1) K19.1) K28.1) K30.1) K32.1) ge_bk36)
        have X951 := own_svN X950 rfl f50 (Nat.le_trans (own_n0 X0) ge_r1) ge_r1
        refine own_virt X951 66 (a := b32) (argsL := [(.ref r1)]) (rest := []) at_63 f155 (fun _ hZ => notFace_of_selects (args := #[]) (mvT hZ (ow hw 49 rfl))) (ro_0n l Z n0 h36 [] a0 hw hWd X951.old b32 bk36 io36 kb36 ki36 r1 t1 kt1 cs1 f155 f37 f38 f39 f40 f42 f41 f43 f44 f50 f56 f62 f68 f74 f80 f86 f27 (own_svb X36 (om 0 rfl)) (own_svb X949 (om 0 rfl)) (own_svb X950 (om 0 rfl)) (own_svb X951 (om 0 rfl))) (ow hw 46 rfl) (ow hw 47 rfl) (ow hw 49 rfl) (ow hw 48 rfl) (ow hw 36 rfl) (ow hw 50 rfl) (by decide) (lenOf pd__28Ljava_2flang_2fString_3b_29Lcom_2fexample_2fratable_2fratable_2fcore_2fPosted_3b rfl) rfl rfl rfl (W := 0) rfl (by decide) (by decide) (by decide) (by decide) (allS (om 3 rfl) (allS (om 2 rfl) (allS (om 1 rfl) (allS (om 0 rfl) all0)))) rfl ?_
        intro T952 h952 v952 X952 K952 hQ952
        obtain ⟨r952, rfl, ge_r952, f953, f954, f955, f956, f957, f958, f959, f960, f961, f962, f963, f964, f965⟩ := hQ952
        show OGo _ _ _ _ T952 (mkF m 66 #[.val (.int pa), .val (.int pb), .val (.int pc), .val (.int pd), .val (.ref r1), .val (.ref r10), .val (.ref r19), .val (.int 3), .val (.ref b28), .val (.ref b30), .val (.ref b32), .val .null, .val .null, .val .null, .unset, .unset] [(.ref r952)])
        refine og_astore X952 68 #[.val (.int pa), .val (.int pb), .val (.int pc), .val (.int pd), .val (.ref r1), .val (.ref r10), .val (.ref r19), .val (.int 3), .val (.ref b28), .val (.ref b30), .val (.ref b32), .val (.ref r952), .val .null, .val .null, .unset, .unset] at_66 rfl rfl rfl ?_
        refine og_iload X952 70 at_68 rfl rfl ?_
        refine og_iconst X952 71 (2 : Int32) at_70 rfl rfl ?_
        refine og_icmpN X952 74 at_71 (XT.ii_lt_f (by decide)) rfl ?_
        refine og_aload X952 76 at_74 rfl rfl rfl ?_
        refine og_aload X952 78 at_76 rfl rfl rfl ?_
        have f966 := f155.keep K952
        have f967 := f50.keep K952
        have f969 := f80.keep K952
        have f968 := f86.keep K952 (ninS (Nat.ne_of_lt (Nat.lt_of_lt_of_le (Nat.lt_of_lt_of_le f7.lt (Nat.le_trans (Nat.le_trans (Nat.le_trans K10.1 K19.1) K28.1) K30.1)) G32)) (ninS (Nat.ne_of_lt (Nat.lt_of_lt_of_le (Nat.lt_of_lt_of_le f7.lt (Nat.le_trans (Nat.le_trans (Nat.le_trans (Nat.le_trans K10.1 K19.1) K28.1) K30.1) K32.1)) ge_io36)) (ninS (Nat.ne_of_lt (Nat.lt_of_lt_of_le (Nat.lt_of_lt_of_le f7.lt (Nat.le_trans (Nat.le_trans (Nat.le_trans (Nat.le_trans K10.1 K19.1) K28.1) K30.1) K32.1)) ge_bk36)) (ninS (ne_exa f969 f967 (by decide)) nin0))))
        have f970 := f91.keep K952
        have f971 := f96.keep K952 (ninS (Nat.ne_of_lt (Nat.lt_of_lt_of_le (Nat.lt_of_lt_of_le f11.lt (Nat.le_trans (Nat.le_trans K19.1 K28.1) K30.1)) G32)) (ninS (Nat.ne_of_lt (Nat.lt_of_lt_of_le (Nat.lt_of_lt_of_le f11.lt (Nat.le_trans (Nat.le_trans (Nat.le_trans K19.1 K28.1) K30.1) K32.1)) ge_io36)) (ninS (Nat.ne_of_lt (Nat.lt_of_lt_of_le (Nat.lt_of_lt_of_le f11.lt (Nat.le_trans (Nat.le_trans (Nat.le_trans K19.1 K28.1) K30.1) K32.1)) ge_bk36)) (ninS (Nat.ne_of_gt (Nat.lt_of_lt_of_le f2.lt ge_r10)) nin0))))
        have f972 := f101.keep K952 (ninS (Nat.ne_of_lt (Nat.lt_of_lt_of_le (Nat.lt_of_lt_of_le f11.lt (Nat.le_trans (Nat.le_trans K19.1 K28.1) K30.1)) G32)) (ninS (Nat.ne_of_lt (Nat.lt_of_lt_of_le (Nat.lt_of_lt_of_le f11.lt (Nat.le_trans (Nat.le_trans (Nat.le_trans K19.1 K28.1) K30.1) K32.1)) ge_io36)) (ninS (Nat.ne_of_lt (Nat.lt_of_lt_of_le (Nat.lt_of_lt_of_le f11.lt (Nat.le_trans (Nat.le_trans (Nat.le_trans K19.1 K28.1) K30.1) K32.1)) ge_bk36)) (ninS (Nat.ne_of_gt (Nat.lt_of_lt_of_le f2.lt ge_r10)) nin0))))
        have f973 := f106.keep K952 (ninS (Nat.ne_of_lt (Nat.lt_of_lt_of_le (Nat.lt_of_lt_of_le f11.lt (Nat.le_trans (Nat.le_trans K19.1 K28.1) K30.1)) G32)) (ninS (Nat.ne_of_lt (Nat.lt_of_lt_of_le (Nat.lt_of_lt_of_le f11.lt (Nat.le_trans (Nat.le_trans (Nat.le_trans K19.1 K28.1) K30.1) K32.1)) ge_io36)) (ninS (Nat.ne_of_lt (Nat.lt_of_lt_of_le (Nat.lt_of_lt_of_le f11.lt (Nat.le_trans (Nat.le_trans (Nat.le_trans K19.1 K28.1) K30.1) K32.1)) ge_bk36)) (ninS (Nat.ne_of_gt (Nat.lt_of_lt_of_le f2.lt ge_r10)) nin0))))
        have f974 := f111.keep K952 (ninS (Nat.ne_of_lt (Nat.lt_of_lt_of_le (Nat.lt_of_lt_of_le f11.lt (Nat.le_trans (Nat.le_trans K19.1 K28.1) K30.1)) G32)) (ninS (Nat.ne_of_lt (Nat.lt_of_lt_of_le (Nat.lt_of_lt_of_le f11.lt (Nat.le_trans (Nat.le_trans (Nat.le_trans K19.1 K28.1) K30.1) K32.1)) ge_io36)) (ninS (Nat.ne_of_lt (Nat.lt_of_lt_of_le (Nat.lt_of_lt_of_le f11.lt (Nat.le_trans (Nat.le_trans (Nat.le_trans K19.1 K28.1) K30.1) K32.1)) ge_bk36)) (ninS (Nat.ne_of_gt (Nat.lt_of_lt_of_le f2.lt ge_r10)) nin0))))
        have f975 := f116.keep K952
        have f976 := f121.keep K952 (ninS (Nat.ne_of_lt (Nat.lt_of_lt_of_le (Nat.lt_of_lt_of_le f16.lt (Nat.le_trans (Nat.le_trans K19.1 K28.1) K30.1)) G32)) (ninS (Nat.ne_of_lt (Nat.lt_of_lt_of_le (Nat.lt_of_lt_of_le f16.lt (Nat.le_trans (Nat.le_trans (Nat.le_trans K19.1 K28.1) K30.1) K32.1)) ge_io36)) (ninS (Nat.ne_of_lt (Nat.lt_of_lt_of_le (Nat.lt_of_lt_of_le f16.lt (Nat.le_trans (Nat.le_trans (Nat.le_trans K19.1 K28.1) K30.1) K32.1)) ge_bk36)) (ninS (ne_exa f975 f967 (by decide)) nin0))))
        have X977 := own_svN X952 rfl f970 (Nat.le_trans (own_n0 X1) ge_r10) (Nat.le_trans K1.1 ge_r10)
        refine own_virt X977 81 (a := b32) (argsL := [(.ref r10)]) (rest := []) at_78 f966 (fun _ hZ => notFace_of_selects (args := #[]) (mvT hZ (ow hw 49 rfl))) (ro_1n l Z n0 h952 [] a0 hw hWd X977.old b32 bk36 io36 kb36 ki36 r10 t10 kt10 cs10 r952 r1 t1 kt1 cs1 f966 f953 f954 f955 f956 f957 f41 f43 f44 f958 f959 f960 f961 f967 f962 f963 f968 f27 f970 f971 f972 f973 f974 f975 f976 f18 (Nat.ne_of_gt (Nat.lt_of_lt_of_le f2.lt ge_r10)) hc528 (own_svb X952 (om 3 rfl)) (own_svb X952 (om 2 rfl)) (own_svb X952 (om 1 rfl)) (own_svb X977 (om 0 rfl))) (ow hw 46 rfl) (ow hw 47 rfl) (ow hw 49 rfl) (ow hw 48 rfl) (ow hw 36 rfl) (ow hw 50 rfl) (by decide) (lenOf pd__28Ljava_2flang_2fString_3b_29Lcom_2fexample_2fratable_2fratable_2fcore_2fPosted_3b rfl) rfl rfl rfl (W := 0) rfl (by decide) (by decide) (by decide) (by decide) (allS (om 4 rfl) (allS (om 3 rfl) (allS (om 2 rfl) (allS (om 0 rfl) all0)))) rfl ?_
        intro T978 h978 v978 X978 K978 hQ978
        obtain ⟨r978, rfl, ge_r978, f979, f980, f981, f982, f983, f984, f985, f986, f987, f988, f989, f990, f991⟩ := hQ978
        show OGo _ _ _ _ T978 (mkF m 81 #[.val (.int pa), .val (.int pb), .val (.int pc), .val (.int pd), .val (.ref r1), .val (.ref r10), .val (.ref r19), .val (.int 3), .val (.ref b28), .val (.ref b30), .val (.ref b32), .val (.ref r952), .val .null, .val .null, .unset, .unset] [(.ref r978)])
        refine og_astore X978 83 #[.val (.int pa), .val (.int pb), .val (.int pc), .val (.int pd), .val (.ref r1), .val (.ref r10), .val (.ref r19), .val (.int 3), .val (.ref b28), .val (.ref b30), .val (.ref b32), .val (.ref r952), .val (.ref r978), .val .null, .unset, .unset] at_81 rfl rfl rfl ?_
        refine og_iload X978 85 at_83 rfl rfl ?_
        refine og_iconst X978 86 (3 : Int32) at_85 rfl rfl ?_
        refine og_icmpN X978 89 at_86 (XT.ii_lt_f (by decide)) rfl ?_
        refine og_aload X978 91 at_89 rfl rfl rfl ?_
        refine og_aload X978 93 at_91 rfl rfl rfl ?_
        have f992 := f966.keep K978
        have f993 := f958.keep K978
        have f994 := f959.keep K978 (ninS (Nat.ne_of_gt (Nat.lt_of_lt_of_le (Nat.lt_of_lt_of_le U32 K36.1) ge_r952)) (ninS (Nat.ne_of_gt (Nat.lt_of_lt_of_le f42.lt ge_r952)) (ninS (Nat.ne_of_gt (Nat.lt_of_lt_of_le f40.lt ge_r952)) (ninS (Nat.ne_of_gt (Nat.lt_of_lt_of_le (Nat.lt_of_lt_of_le f11.lt (Nat.le_trans (Nat.le_trans (Nat.le_trans (Nat.le_trans K19.1 K28.1) K30.1) K32.1) K36.1)) ge_r952)) nin0))))
        have f995 := f960.keep K978 (ninS (Nat.ne_of_gt (Nat.lt_of_lt_of_le (Nat.lt_of_lt_of_le U32 K36.1) ge_r952)) (ninS (Nat.ne_of_gt (Nat.lt_of_lt_of_le f42.lt ge_r952)) (ninS (Nat.ne_of_gt (Nat.lt_of_lt_of_le f40.lt ge_r952)) (ninS (Nat.ne_of_gt (Nat.lt_of_lt_of_le (Nat.lt_of_lt_of_le f11.lt (Nat.le_trans (Nat.le_trans (Nat.le_trans (Nat.le_trans K19.1 K28.1) K30.1) K32.1) K36.1)) ge_r952)) nin0))))
        have f996 := f961.keep K978 (ninS (Nat.ne_of_gt (Nat.lt_of_lt_of_le (Nat.lt_of_lt_of_le U32 K36.1) ge_r952)) (ninS (Nat.ne_of_gt (Nat.lt_of_lt_of_le f42.lt ge_r952)) (ninS (Nat.ne_of_gt (Nat.lt_of_lt_of_le f40.lt ge_r952)) (ninS (Nat.ne_of_gt (Nat.lt_of_lt_of_le (Nat.lt_of_lt_of_le f11.lt (Nat.le_trans (Nat.le_trans (Nat.le_trans (Nat.le_trans K19.1 K28.1) K30.1) K32.1) K36.1)) ge_r952)) nin0))))
        have f997 := f967.keep K978
        have f998 := f962.keep K978 (ninS (Nat.ne_of_lt (Nat.lt_of_lt_of_le (Nat.lt_of_lt_of_le f2.lt (Nat.le_trans (Nat.le_trans (Nat.le_trans K10.1 K19.1) K28.1) K30.1)) G32)) (ninS (Nat.ne_of_lt (Nat.lt_of_lt_of_le (Nat.lt_of_lt_of_le f2.lt (Nat.le_trans (Nat.le_trans (Nat.le_trans (Nat.le_trans K10.1 K19.1) K28.1) K30.1) K32.1)) ge_io36)) (ninS (Nat.ne_of_lt (Nat.lt_of_lt_of_le (Nat.lt_of_lt_of_le f2.lt (Nat.le_trans (Nat.le_trans (Nat.le_trans (Nat.le_trans K10.1 K19.1) K28.1) K30.1) K32.1)) ge_bk36)) (ninS (Nat.ne_of_lt (Nat.lt_of_lt_of_le f2.lt ge_r10)) nin0))))
        have f999 := f963.keep K978 (ninS (Nat.ne_of_lt (Nat.lt_of_lt_of_le (Nat.lt_of_lt_of_le f2.lt (Nat.le_trans (Nat.le_trans (Nat.le_trans K10.1 K19.1) K28.1) K30.1)) G32)) (ninS (Nat.ne_of_lt (Nat.lt_of_lt_of_le (Nat.lt_of_lt_of_le f2.lt (Nat.le_trans (Nat.le_trans (Nat.le_trans (Nat.le_trans K10.1 K19.1) K28.1) K30.1) K32.1)) ge_io36)) (ninS (Nat.ne_of_lt (Nat.lt_of_lt_of_le (Nat.lt_of_lt_of_le f2.lt (Nat.le_trans (Nat.le_trans (Nat.le_trans (Nat.le_trans K10.1 K19.1) K28.1) K30.1) K32.1)) ge_bk36)) (ninS (Nat.ne_of_lt (Nat.lt_of_lt_of_le f2.lt ge_r10)) nin0))))
        have f1000 := f968.keep K978 (ninS (Nat.ne_of_lt (Nat.lt_of_lt_of_le (Nat.lt_of_lt_of_le f7.lt (Nat.le_trans (Nat.le_trans (Nat.le_trans K10.1 K19.1) K28.1) K30.1)) G32)) (ninS (Nat.ne_of_lt (Nat.lt_of_lt_of_le (Nat.lt_of_lt_of_le f7.lt (Nat.le_trans (Nat.le_trans (Nat.le_trans (Nat.le_trans K10.1 K19.1) K28.1) K30.1) K32.1)) ge_io36)) (ninS (Nat.ne_of_lt (Nat.lt_of_lt_of_le (Nat.lt_of_lt_of_le f7.lt (Nat.le_trans (Nat.le_trans (Nat.le_trans (Nat.le_trans K10.1 K19.1) K28.1) K30.1) K32.1)) ge_bk36)) (ninS (Nat.ne_of_lt (Nat.lt_of_lt_of_le f7.lt ge_r10)) nin0))))
        have f1001 := f970.keep K978
        have f1003 := f975.keep K978
        have f1002 := f976.keep K978 (ninS (Nat.ne_of_lt (Nat.lt_of_lt_of_le (Nat.lt_of_lt_of_le f16.lt (Nat.le_trans (Nat.le_trans K19.1 K28.1) K30.1)) G32)) (ninS (Nat.ne_of_lt (Nat.lt_of_lt_of_le (Nat.lt_of_lt_of_le f16.lt (Nat.le_trans (Nat.le_trans (Nat.le_trans K19.1 K28.1) K30.1) K32.1)) ge_io36)) (ninS (Nat.ne_of_lt (Nat.lt_of_lt_of_le (Nat.lt_of_lt_of_le f16.lt (Nat.le_trans (Nat.le_trans (Nat.le_trans K19.1 K28.1) K30.1) K32.1)) ge_bk36)) (ninS (ne_exa f1003 f1001 (by decide)) nin0))))
        have f1004 := f125.keep K952
        have f1005 := f1004.keep K978
        have f1006 := f129.keep K952 (ninS (Nat.ne_of_lt (Nat.lt_of_lt_of_le (Nat.lt_of_lt_of_le f20.lt (Nat.le_trans K28.1 K30.1)) G32)) (ninS (Nat.ne_of_lt (Nat.lt_of_lt_of_le (Nat.lt_of_lt_of_le f20.lt (Nat.le_trans (Nat.le_trans K28.1 K30.1) K32.1)) ge_io36)) (ninS (Nat.ne_of_lt (Nat.lt_of_lt_of_le (Nat.lt_of_lt_of_le f20.lt (Nat.le_trans (Nat.le_trans K28.1 K30.1) K32.1)) ge_bk36)) (ninS (Nat.ne_of_gt (Nat.lt_of_lt_of_le (Nat.lt_of_lt_of_le f2.lt K10.1) ge_r19)) nin0))))
        have f1007 := f1006.keep K978 (ninS (Nat.ne_of_lt (Nat.lt_of_lt_of_le (Nat.lt_of_lt_of_le f20.lt (Nat.le_trans K28.1 K30.1)) G32)) (ninS (Nat.ne_of_lt (Nat.lt_of_lt_of_le (Nat.lt_of_lt_of_le f20.lt (Nat.le_trans (Nat.le_trans K28.1 K30.1) K32.1)) ge_io36)) (ninS (Nat.ne_of_lt (Nat.lt_of_lt_of_le (Nat.lt_of_lt_of_le f20.lt (Nat.le_trans (Nat.le_trans K28.1 K30.1) K32.1)) ge_bk36)) (ninS (Nat.ne_of_gt (Nat.lt_of_lt_of_le f11.lt ge_r19)) nin0))))
        have f1008 := f133.keep K952 (ninS (Nat.ne_of_lt (Nat.lt_of_lt_of_le (Nat.lt_of_lt_of_le f20.lt (Nat.le_trans K28.1 K30.1)) G32)) (ninS (Nat.ne_of_lt (Nat.lt_of_lt_of_le (Nat.lt_of_lt_of_le f20.lt (Nat.le_trans (Nat.le_trans K28.1 K30.1) K32.1)) ge_io36)) (ninS (Nat.ne_of_lt (Nat.lt_of_lt_of_le (Nat.lt_of_lt_of_le f20.lt (Nat.le_trans (Nat.le_trans K28.1 K30.1) K32.1)) ge_bk36)) (ninS (Nat.ne_of_gt (Nat.lt_of_lt_of_le (Nat.lt_of_lt_of_le f2.lt K10.1) ge_r19)) nin0))))
        have f1009 := f1008.keep K978 (ninS (Nat.ne_of_lt (Nat.lt_of_lt_of_le (Nat.lt_of_lt_of_le f20.lt (Nat.le_trans K28.1 K30.1)) G32)) (ninS (Nat.ne_of_lt (Nat.lt_of_lt_of_le (Nat.lt_of_lt_of_le f20.lt (Nat.le_trans (Nat.le_trans K28.1 K30.1) K32.1)) ge_io36)) (ninS (Nat.ne_of_lt (Nat.lt_of_lt_of_le (Nat.lt_of_lt_of_le f20.lt (Nat.le_trans (Nat.le_trans K28.1 K30.1) K32.1)) ge_bk36)) (ninS (Nat.ne_of_gt (Nat.lt_of_lt_of_le f11.lt ge_r19)) nin0))))
        have f1010 := f137.keep K952 (ninS (Nat.ne_of_lt (Nat.lt_of_lt_of_le (Nat.lt_of_lt_of_le f20.lt (Nat.le_trans K28.1 K30.1)) G32)) (ninS (Nat.ne_of_lt (Nat.lt_of_lt_of_le (Nat.lt_of_lt_of_le f20.lt (Nat.le_trans (Nat.le_trans K28.1 K30.1) K32.1)) ge_io36)) (ninS (Nat.ne_of_lt (Nat.lt_of_lt_of_le (Nat.lt_of_lt_of_le f20.lt (Nat.le_trans (Nat.le_trans K28.1 K30.1) K32.1)) ge_bk36)) (ninS (Nat.ne_of_gt (Nat.lt_of_lt_of_le (Nat.lt_of_lt_of_le f2.lt K10.1) ge_r19)) nin0))))
        have f1011 := f1010.keep K978 (ninS (Nat.ne_of_lt (Nat.lt_of_lt_of_le (Nat.lt_of_lt_of_le f20.lt (Nat.le_trans K28.1 K30.1)) G32)) (ninS (Nat.ne_of_lt (Nat.lt_of_lt_of_le (Nat.lt_of_lt_of_le f20.lt (Nat.le_trans (Nat.le_trans K28.1 K30.1) K32.1)) ge_io36)) (ninS (Nat.ne_of_lt (Nat.lt_of_lt_of_le (Nat.lt_of_lt_of_le f20.lt (Nat.le_trans (Nat.le_trans K28.1 K30.1) K32.1)) ge_bk36)) (ninS (Nat.ne_of_gt (Nat.lt_of_lt_of_le f11.lt ge_r19)) nin0))))
        have f1012 := f141.keep K952 (ninS (Nat.ne_of_lt (Nat.lt_of_lt_of_le (Nat.lt_of_lt_of_le f20.lt (Nat.le_trans K28.1 K30.1)) G32)) (ninS (Nat.ne_of_lt (Nat.lt_of_lt_of_le (Nat.lt_of_lt_of_le f20.lt (Nat.le_trans (Nat.le_trans K28.1 K30.1) K32.1)) ge_io36)) (ninS (Nat.ne_of_lt (Nat.lt_of_lt_of_le (Nat.lt_of_lt_of_le f20.lt (Nat.le_trans (Nat.le_trans K28.1 K30.1) K32.1)) ge_bk36)) (ninS (Nat.ne_of_gt (Nat.lt_of_lt_of_le (Nat.lt_of_lt_of_le f2.lt K10.1) ge_r19)) nin0))))
        have f1013 := f1012.keep K978 (ninS (Nat.ne_of_lt (Nat.lt_of_lt_of_le (Nat.lt_of_lt_of_le f20.lt (Nat.le_trans K28.1 K30.1)) G32)) (ninS (Nat.ne_of_lt (Nat.lt_of_lt_of_le (Nat.lt_of_lt_of_le f20.lt (Nat.le_trans (Nat.le_trans K28.1 K30.1) K32.1)) ge_io36)) (ninS (Nat.ne_of_lt (Nat.lt_of_lt_of_le (Nat.lt_of_lt_of_le f20.lt (Nat.le_trans (Nat.le_trans K28.1 K30.1) K32.1)) ge_bk36)) (ninS (Nat.ne_of_gt (Nat.lt_of_lt_of_le f11.lt ge_r19)) nin0))))
        have f1014 := f145.keep K952
        have f1015 := f1014.keep K978
        have f1016 := f149.keep K952 (ninS (Nat.ne_of_lt (Nat.lt_of_lt_of_le (Nat.lt_of_lt_of_le f25.lt (Nat.le_trans K28.1 K30.1)) G32)) (ninS (Nat.ne_of_lt (Nat.lt_of_lt_of_le (Nat.lt_of_lt_of_le f25.lt (Nat.le_trans (Nat.le_trans K28.1 K30.1) K32.1)) ge_io36)) (ninS (Nat.ne_of_lt (Nat.lt_of_lt_of_le (Nat.lt_of_lt_of_le f25.lt (Nat.le_trans (Nat.le_trans K28.1 K30.1) K32.1)) ge_bk36)) (ninS (ne_exa f1015 f997 (by decide)) nin0))))
        have f1017 := f1016.keep K978 (ninS (Nat.ne_of_lt (Nat.lt_of_lt_of_le (Nat.lt_of_lt_of_le f25.lt (Nat.le_trans K28.1 K30.1)) G32)) (ninS (Nat.ne_of_lt (Nat.lt_of_lt_of_le (Nat.lt_of_lt_of_le f25.lt (Nat.le_trans (Nat.le_trans K28.1 K30.1) K32.1)) ge_io36)) (ninS (Nat.ne_of_lt (Nat.lt_of_lt_of_le (Nat.lt_of_lt_of_le f25.lt (Nat.le_trans (Nat.le_trans K28.1 K30.1) K32.1)) ge_bk36)) (ninS (ne_exa f1015 f1001 (by decide)) nin0))))
        have X1018 := own_svN X978 rfl f1005 (Nat.le_trans (own_n0 X10) ge_r19) (Nat.le_trans (Nat.le_trans K1.1 K10.1) ge_r19)
        refine own_virt X1018 96 (a := b32) (argsL := [(.ref r19)]) (rest := []) at_93 f992 (fun _ hZ => notFace_of_selects (args := #[]) (mvT hZ (ow hw 49 rfl))) (ro_2f0 l Z n0 h978 [] a0 hw hWd X1018.old b32 bk36 io36 kb36 ki36 r19 t19 kt19 r952 r1 t1 kt1 cs1 r978 r10 t10 kt10 cs10 f992 f979 f980 f981 f982 f983 f41 f43 f44 f993 f994 f995 f996 f997 f998 f999 f1000 f27 f984 f985 f986 f987 f1001 f988 f989 f1002 f18 f1005 f1007 f1009 f1011 f1013 f1015 f1017 f27 (Nat.ne_of_gt (Nat.lt_of_lt_of_le (Nat.lt_of_lt_of_le f2.lt K10.1) ge_r19)) (Nat.ne_of_gt (Nat.lt_of_lt_of_le f11.lt ge_r19)) hc528 (own_svb X1018 (om 0 rfl))) (ow hw 46 rfl) (ow hw 47 rfl) (ow hw 49 rfl) (ow hw 48 rfl) (ow hw 36 rfl) (ow hw 50 rfl) (by decide) (lenOf pd__28Ljava_2flang_2fString_3b_29Lcom_2fexample_2fratable_2fratable_2fcore_2fPosted_3b rfl) rfl rfl rfl (W := 0) rfl (by decide) (by decide) (by decide) (by decide) (allS (om 0 rfl) all0) rfl ?_
        intro T1019 h1019 v1019 X1019 K1019 hQ1019
        obtain ⟨rfl, f1020, f1021, f1022, f1023⟩ := hQ1019
        show OGo _ _ _ _ T1019 (mkF m 96 #[.val (.int pa), .val (.int pb), .val (.int pc), .val (.int pd), .val (.ref r1), .val (.ref r10), .val (.ref r19), .val (.int 3), .val (.ref b28), .val (.ref b30), .val (.ref b32), .val (.ref r952), .val (.ref r978), .val .null, .unset, .unset] [(.ref r952)])
        refine og_astore X1019 98 #[.val (.int pa), .val (.int pb), .val (.int pc), .val (.int pd), .val (.ref r1), .val (.ref r10), .val (.ref r19), .val (.int 3), .val (.ref b28), .val (.ref b30), .val (.ref b32), .val (.ref r952), .val (.ref r978), .val (.ref r952), .unset, .unset] at_96 rfl rfl rfl ?_
        refine og_iconst X1019 99 (0 : Int32) at_98 rfl rfl ?_
        refine og_istore X1019 101 #[.val (.int pa), .val (.int pb), .val (.int pc), .val (.int pd), .val (.ref r1), .val (.ref r10), .val (.ref r19), .val (.int 3), .val (.ref b28), .val (.ref b30), .val (.ref b32), .val (.ref r952), .val (.ref r978), .val (.ref r952), .val (.int 0), .unset] at_99 rfl rfl ?_
        refine og_iload X1019 103 at_101 rfl rfl ?_
        refine og_iconst X1019 104 (1 : Int32) at_103 rfl rfl ?_
        refine og_icmpN X1019 107 at_104 (XT.ii_lt_f (by decide)) rfl ?_
        refine og_aload X1019 109 at_107 rfl rfl rfl ?_
        refine og_iload X1019 111 at_109 rfl rfl ?_
        refine og_aload X1019 113 at_111 rfl rfl rfl ?_
        have f1024 := f152.keep K952 (ninS (Nat.ne_of_lt (Nat.lt_of_lt_of_le (Nat.lt_of_lt_of_le U28 K30.1) G32)) (ninS (Nat.ne_of_lt (Nat.lt_of_lt_of_le (Nat.lt_of_lt_of_le U28 (Nat.le_trans K30.1 K32.1)) ge_io36)) (ninS (Nat.ne_of_lt (Nat.lt_of_lt_of_le (Nat.lt_of_lt_of_le U28 (Nat.le_trans K30.1 K32.1)) ge_bk36)) (ninS (Nat.ne_of_gt (Nat.lt_of_lt_of_le (Nat.lt_of_lt_of_le f2.lt (Nat.le_trans K10.1 K19.1)) G28)) nin0))))
        have f1025 := f1024.keep K978 (ninS (Nat.ne_of_lt (Nat.lt_of_lt_of_le (Nat.lt_of_lt_of_le U28 K30.1) G32)) (ninS (Nat.ne_of_lt (Nat.lt_of_lt_of_le (Nat.lt_of_lt_of_le U28 (Nat.le_trans K30.1 K32.1)) ge_io36)) (ninS (Nat.ne_of_lt (Nat.lt_of_lt_of_le (Nat.lt_of_lt_of_le U28 (Nat.le_trans K30.1 K32.1)) ge_bk36)) (ninS (Nat.ne_of_gt (Nat.lt_of_lt_of_le (Nat.lt_of_lt_of_le f11.lt K19.1) G28)) nin0))))
        have f1026 := f1025.keep K1019 (ninS (Nat.ne_of_gt (Nat.lt_of_lt_of_le f20.lt G28)) nin0)
        have f1028 := f993.keep K1019
        refine own_stR X1019 114 at_113 f1026 rfl rfl (own_sto f1026 O28 (Ins.self f1028)) (by decide) (by decide) (i := 0) (by decide) (Nat.le_of_ble_eq_true rfl) (om 7 rfl) rfl ?_
        intro T1027 h1027 X1027 W1027 K1027 A1027
        have f1029 : Arv Z h1027 b28 kb28 (.object "com/example/ratable/ratable/core/Posted") (3 : Int32) [(.ref r952), .null, .null] .null := A1027
        refine og_aload X1027 116 at_114 rfl rfl rfl ?_
        refine og_iload X1027 118 at_116 rfl rfl ?_
        refine og_aload X1027 120 at_118 rfl rfl rfl ?_
        have f1030 := f154.keep K952 (ninS (Nat.ne_of_lt (Nat.lt_of_lt_of_le U30 G32)) (ninS (Nat.ne_of_lt (Nat.lt_of_lt_of_le (Nat.lt_of_lt_of_le U30 K32.1) ge_io36)) (ninS (Nat.ne_of_lt (Nat.lt_of_lt_of_le (Nat.lt_of_lt_of_le U30 K32.1) ge_bk36)) (ninS (Nat.ne_of_gt (Nat.lt_of_lt_of_le (Nat.lt_of_lt_of_le f2.lt (Nat.le_trans (Nat.le_trans K10.1 K19.1) K28.1)) G30)) nin0))))
        have f1031 := f1030.keep K978 (ninS (Nat.ne_of_lt (Nat.lt_of_lt_of_le U30 G32)) (ninS (Nat.ne_of_lt (Nat.lt_of_lt_of_le (Nat.lt_of_lt_of_le U30 K32.1) ge_io36)) (ninS (Nat.ne_of_lt (Nat.lt_of_lt_of_le (Nat.lt_of_lt_of_le U30 K32.1) ge_bk36)) (ninS (Nat.ne_of_gt (Nat.lt_of_lt_of_le (Nat.lt_of_lt_of_le f11.lt (Nat.le_trans K19.1 K28.1)) G30)) nin0))))
        have f1032 := f1031.keep K1019 (ninS (Nat.ne_of_gt (Nat.lt_of_lt_of_le (Nat.lt_of_lt_of_le f20.lt K28.1) G30)) nin0)
        have f1033 := f1032.keep K1027 (ninS (Nat.ne_of_gt (Nat.lt_of_lt_of_le U28 G30)) nin0)
        have f1035 := f997.keep K1019
        have f1036 := f1035.keep K1027
        refine own_stR X1027 121 at_120 f1033 rfl rfl (own_sto f1033 O30 (Ins.self f1036)) (by decide) (by decide) (i := 0) (by decide) (Nat.le_of_ble_eq_true rfl) (om 6 rfl) rfl ?_
        intro T1034 h1034 X1034 W1034 K1034 A1034
        have f1037 : Arv Z h1034 b30 kb30 (.object "java/lang/String") (3 : Int32) [(.ref r1), .null, .null] .null := A1034
        refine og_iinc X1034 124 #[.val (.int pa), .val (.int pb), .val (.int pc), .val (.int pd), .val (.ref r1), .val (.ref r10), .val (.ref r19), .val (.int 3), .val (.ref b28), .val (.ref b30), .val (.ref b32), .val (.ref r952), .val (.ref r978), .val (.ref r952), .val (.int 1), .unset] at_121 rfl rfl rfl ?_
        refine og_iload X1034 126 at_124 rfl rfl ?_
        refine og_iconst X1034 127 (2 : Int32) at_126 rfl rfl ?_
        refine og_icmpN X1034 130 at_127 (XT.ii_lt_f (by decide)) rfl ?_
        refine og_aload X1034 132 at_130 rfl rfl rfl ?_
        refine og_aload X1034 134 at_132 rfl rfl rfl ?_
        have f1038 := f1001.keep K1019
        have f1039 := f1038.keep K1027
        have f1040 := f1039.keep K1034
        have f1041 := f988.keep K1019 (ninS (Nat.ne_of_lt (Nat.lt_of_lt_of_le f11.lt ge_r19)) nin0)
        have f1042 := f1041.keep K1027 (ninS (Nat.ne_of_lt (Nat.lt_of_lt_of_le (Nat.lt_of_lt_of_le f11.lt K19.1) G28)) nin0)
        have f1043 := f1042.keep K1034 (ninS (Nat.ne_of_lt (Nat.lt_of_lt_of_le (Nat.lt_of_lt_of_le f11.lt (Nat.le_trans K19.1 K28.1)) G30)) nin0)
        have f1044 := f989.keep K1019 (ninS (Nat.ne_of_lt (Nat.lt_of_lt_of_le f11.lt ge_r19)) nin0)
        have f1045 := f1044.keep K1027 (ninS (Nat.ne_of_lt (Nat.lt_of_lt_of_le (Nat.lt_of_lt_of_le f11.lt K19.1) G28)) nin0)
        have f1046 := f1045.keep K1034 (ninS (Nat.ne_of_lt (Nat.lt_of_lt_of_le (Nat.lt_of_lt_of_le f11.lt (Nat.le_trans K19.1 K28.1)) G30)) nin0)
        have f1047 := f1002.keep K1019 (ninS (Nat.ne_of_lt (Nat.lt_of_lt_of_le f16.lt ge_r19)) nin0)
        have f1048 := f1047.keep K1027 (ninS (Nat.ne_of_lt (Nat.lt_of_lt_of_le (Nat.lt_of_lt_of_le f16.lt K19.1) G28)) nin0)
        have f1049 := f1048.keep K1034 (ninS (Nat.ne_of_lt (Nat.lt_of_lt_of_le (Nat.lt_of_lt_of_le f16.lt (Nat.le_trans K19.1 K28.1)) G30)) nin0)
        have f1050 := own_rawS f1040 f1043 f1046 f1049 f18
        have f1051 := f1036.keep K1034
        have f1052 := f998.keep K1019 (ninS (Nat.ne_of_lt (Nat.lt_of_lt_of_le (Nat.lt_of_lt_of_le f2.lt K10.1) ge_r19)) nin0)
        have f1053 := f1052.keep K1027 (ninS (Nat.ne_of_lt (Nat.lt_of_lt_of_le (Nat.lt_of_lt_of_le f2.lt (Nat.le_trans K10.1 K19.1)) G28)) nin0)
        have f1054 := f1053.keep K1034 (ninS (Nat.ne_of_lt (Nat.lt_of_lt_of_le (Nat.lt_of_lt_of_le f2.lt (Nat.le_trans (Nat.le_trans K10.1 K19.1) K28.1)) G30)) nin0)
        have f1055 := f999.keep K1019 (ninS (Nat.ne_of_lt (Nat.lt_of_lt_of_le (Nat.lt_of_lt_of_le f2.lt K10.1) ge_r19)) nin0)
        have f1056 := f1055.keep K1027 (ninS (Nat.ne_of_lt (Nat.lt_of_lt_of_le (Nat.lt_of_lt_of_le f2.lt (Nat.le_trans K10.1 K19.1)) G28)) nin0)
        have f1057 := f1056.keep K1034 (ninS (Nat.ne_of_lt (Nat.lt_of_lt_of_le (Nat.lt_of_lt_of_le f2.lt (Nat.le_trans (Nat.le_trans K10.1 K19.1) K28.1)) G30)) nin0)
        have f1058 := f1000.keep K1019 (ninS (Nat.ne_of_lt (Nat.lt_of_lt_of_le (Nat.lt_of_lt_of_le f7.lt K10.1) ge_r19)) nin0)
        have f1059 := f1058.keep K1027 (ninS (Nat.ne_of_lt (Nat.lt_of_lt_of_le (Nat.lt_of_lt_of_le f7.lt (Nat.le_trans K10.1 K19.1)) G28)) nin0)
        have f1060 := f1059.keep K1034 (ninS (Nat.ne_of_lt (Nat.lt_of_lt_of_le (Nat.lt_of_lt_of_le f7.lt (Nat.le_trans (Nat.le_trans K10.1 K19.1) K28.1)) G30)) nin0)
        have f1061 := own_rawS f1051 f1054 f1057 f1060 f27
        refine own_strEq X1034 137 at_134 f1050 f1061 (own_wE hw) (ow hw 14 rfl) hWd.2.1 hWd.2.2 (ow hw 144 rfl) (ow hw 145 rfl) (ow hw 147 rfl) (ow hw 146 rfl) rfl (W := 0) rfl (by decide) (by decide) (by decide) (by decide) rfl ?_
        intro T1062 X1063
        refine og_ifN X1063 140 at_137 (XT.i0_ne_f (own_eqb0.mpr (fun q => hc528 q.symm))) rfl ?_
        refine og_aload X1063 142 at_140 rfl rfl rfl ?_
        refine og_iload X1063 144 at_142 rfl rfl ?_
        refine og_aload X1063 146 at_144 rfl rfl rfl ?_
        have f1064 := f1029.keep K1034 (ninS (Nat.ne_of_lt (Nat.lt_of_lt_of_le U28 G30)) nin0)
        have f1066 := f984.keep K1019
        have f1067 := f1066.keep K1027
        have f1068 := f1067.keep K1034
        refine own_stR X1063 147 at_146 f1064 rfl rfl (own_sto f1064 O28 (Ins.self f1068)) (by decide) (by decide) (i := 1) (by decide) (Nat.le_of_ble_eq_true rfl) (om 7 rfl) rfl ?_
        intro T1065 h1065 X1065 W1065 K1065 A1065
        have f1069 : Arv Z h1065 b28 kb28 (.object "com/example/ratable/ratable/core/Posted") (3 : Int32) [(.ref r952), (.ref r978), .null] .null := A1065
        refine og_aload X1065 149 at_147 rfl rfl rfl ?_
        refine og_iload X1065 151 at_149 rfl rfl ?_
        refine og_aload X1065 153 at_151 rfl rfl rfl ?_
        have f1070 := f1037.keep K1065 (ninS (Nat.ne_of_gt (Nat.lt_of_lt_of_le U28 G30)) nin0)
        have f1072 := f1040.keep K1065
        refine own_stR X1065 154 at_153 f1070 rfl rfl (own_sto f1070 O30 (Ins.self f1072)) (by decide) (by decide) (i := 1) (by decide) (Nat.le_of_ble_eq_true rfl) (om 6 rfl) rfl ?_
        intro T1071 h1071 X1071 W1071 K1071 A1071
        have f1073 : Arv Z h1071 b30 kb30 (.object "java/lang/String") (3 : Int32) [(.ref r1), (.ref r10), .null] .null := A1071
        refine og_iinc X1071 157 #[.val (.int pa), .val (.int pb), .val (.int pc), .val (.int pd), .val (.ref r1), .val (.ref r10), .val (.ref r19), .val (.int 3), .val (.ref b28), .val (.ref b30), .val (.ref b32), .val (.ref r952), .val (.ref r978), .val (.ref r952), .val (.int 2), .unset] at_154 rfl rfl rfl ?_
        refine og_iload X1071 159 at_157 rfl rfl ?_
        refine og_iconst X1071 160 (3 : Int32) at_159 rfl rfl ?_
        refine og_icmpN X1071 163 at_160 (XT.ii_lt_f (by decide)) rfl ?_
        refine og_aload X1071 165 at_163 rfl rfl rfl ?_
        refine og_aload X1071 167 at_165 rfl rfl rfl ?_
        have f1074 := f1005.keep K1019
        have f1075 := f1074.keep K1027
        have f1076 := f1075.keep K1034
        have f1077 := f1076.keep K1065
        have f1078 := f1077.keep K1071
        have f1079 := f1020.keep K1027 (ninS (Nat.ne_of_lt (Nat.lt_of_lt_of_le f20.lt G28)) nin0)
        have f1080 := f1079.keep K1034 (ninS (Nat.ne_of_lt (Nat.lt_of_lt_of_le (Nat.lt_of_lt_of_le f20.lt K28.1) G30)) nin0)
        have f1081 := f1080.keep K1065 (ninS (Nat.ne_of_lt (Nat.lt_of_lt_of_le f20.lt G28)) nin0)
        have f1082 := f1081.keep K1071 (ninS (Nat.ne_of_lt (Nat.lt_of_lt_of_le (Nat.lt_of_lt_of_le f20.lt K28.1) G30)) nin0)
        have f1083 := f1021.keep K1027 (ninS (Nat.ne_of_lt (Nat.lt_of_lt_of_le f20.lt G28)) nin0)
        have f1084 := f1083.keep K1034 (ninS (Nat.ne_of_lt (Nat.lt_of_lt_of_le (Nat.lt_of_lt_of_le f20.lt K28.1) G30)) nin0)
        have f1085 := f1084.keep K1065 (ninS (Nat.ne_of_lt (Nat.lt_of_lt_of_le f20.lt G28)) nin0)
        have f1086 := f1085.keep K1071 (ninS (Nat.ne_of_lt (Nat.lt_of_lt_of_le (Nat.lt_of_lt_of_le f20.lt K28.1) G30)) nin0)
        have f1088 := f1015.keep K1019
        have f1089 := f1088.keep K1027
        have f1090 := f1089.keep K1034
        have f1091 := f1090.keep K1065
        have f1092 := f1091.keep K1071
        have f1087 := f1017.keep K1019 (ninS (ne_exa f1092 f1078 (by decide)) nin0)
        have f1093 := f1087.keep K1027 (ninS (Nat.ne_of_lt (Nat.lt_of_lt_of_le f25.lt G28)) nin0)
        have f1094 := f1093.keep K1034 (ninS (Nat.ne_of_lt (Nat.lt_of_lt_of_le (Nat.lt_of_lt_of_le f25.lt K28.1) G30)) nin0)
        have f1095 := f1094.keep K1065 (ninS (Nat.ne_of_lt (Nat.lt_of_lt_of_le f25.lt G28)) nin0)
        have f1096 := f1095.keep K1071 (ninS (Nat.ne_of_lt (Nat.lt_of_lt_of_le (Nat.lt_of_lt_of_le f25.lt K28.1) G30)) nin0)
        have f1097 := own_rawS f1078 f1082 f1086 f1096 f27
        have f1098 := f1051.keep K1065
        have f1099 := f1098.keep K1071
        have f1100 := f1054.keep K1065 (ninS (Nat.ne_of_lt (Nat.lt_of_lt_of_le (Nat.lt_of_lt_of_le f2.lt (Nat.le_trans K10.1 K19.1)) G28)) nin0)
        have f1101 := f1100.keep K1071 (ninS (Nat.ne_of_lt (Nat.lt_of_lt_of_le (Nat.lt_of_lt_of_le f2.lt (Nat.le_trans (Nat.le_trans K10.1 K19.1) K28.1)) G30)) nin0)
        have f1102 := f1057.keep K1065 (ninS (Nat.ne_of_lt (Nat.lt_of_lt_of_le (Nat.lt_of_lt_of_le f2.lt (Nat.le_trans K10.1 K19.1)) G28)) nin0)
        have f1103 := f1102.keep K1071 (ninS (Nat.ne_of_lt (Nat.lt_of_lt_of_le (Nat.lt_of_lt_of_le f2.lt (Nat.le_trans (Nat.le_trans K10.1 K19.1) K28.1)) G30)) nin0)
        have f1104 := f1060.keep K1065 (ninS (Nat.ne_of_lt (Nat.lt_of_lt_of_le (Nat.lt_of_lt_of_le f7.lt (Nat.le_trans K10.1 K19.1)) G28)) nin0)
        have f1105 := f1104.keep K1071 (ninS (Nat.ne_of_lt (Nat.lt_of_lt_of_le (Nat.lt_of_lt_of_le f7.lt (Nat.le_trans (Nat.le_trans K10.1 K19.1) K28.1)) G30)) nin0)
        have f1106 := own_rawS f1099 f1101 f1103 f1105 f27
        refine own_strEq X1071 170 at_167 f1097 f1106 (own_wE hw) (ow hw 14 rfl) hWd.2.1 hWd.2.2 (ow hw 144 rfl) (ow hw 145 rfl) (ow hw 147 rfl) (ow hw 146 rfl) rfl (W := 0) rfl (by decide) (by decide) (by decide) (by decide) rfl ?_
        intro T1107 X1108
        refine og_ifY X1108 200 at_170 (XT.i0_ne_t (own_eqbS _)) (by decide) (by decide) ?_
        refine og_aload X1108 202 at_200 rfl rfl rfl ?_
        have f1109 := f992.keep K1019
        have f1110 := f1109.keep K1027
        have f1111 := f1110.keep K1034
        have f1112 := f1111.keep K1065
        have f1113 := f1112.keep K1071
        have f1114 := f981.keep K1019 (ninS (Nat.ne_of_gt (Nat.lt_of_lt_of_le (Nat.lt_of_lt_of_le f20.lt (Nat.le_trans K28.1 K30.1)) G32)) nin0)
        have f1115 := f1114.keep K1027 (ninS (Nat.ne_of_gt (Nat.lt_of_lt_of_le (Nat.lt_of_lt_of_le U28 K30.1) G32)) nin0)
        have f1116 := f1115.keep K1034 (ninS (Nat.ne_of_gt (Nat.lt_of_lt_of_le U30 G32)) nin0)
        have f1117 := f1116.keep K1065 (ninS (Nat.ne_of_gt (Nat.lt_of_lt_of_le (Nat.lt_of_lt_of_le U28 K30.1) G32)) nin0)
        have f1118 := f1117.keep K1071 (ninS (Nat.ne_of_gt (Nat.lt_of_lt_of_le U30 G32)) nin0)
        refine own_virt X1108 205 (a := b32) (argsL := []) (rest := []) at_202 f1113 (fun _ hZ => notFace_of_selects (args := #[]) (mvT hZ (ow hw 125 rfl))) (rm18 l Z n0 h1071 [] a0 hw hWd X1108.old b32 (2 : Int32) f1118 ) (ow hw 122 rfl) (ow hw 123 rfl) (ow hw 125 rfl) (ow hw 124 rfl) (ow hw 36 rfl) (ow hw 126 rfl) (by decide) (lenOf pd__28_29I rfl) rfl rfl rfl (W := 0) rfl (by decide) (by decide) (by decide) (by decide) all0 rfl ?_
        intro T1119 h1119 v1119 X1119 K1119 hQ1119
        obtain rfl := hQ1119
        show OGo _ _ _ _ T1119 (mkF m 205 #[.val (.int pa), .val (.int pb), .val (.int pc), .val (.int pd), .val (.ref r1), .val (.ref r10), .val (.ref r19), .val (.int 3), .val (.ref b28), .val (.ref b30), .val (.ref b32), .val (.ref r952), .val (.ref r978), .val (.ref r952), .val (.int 2), .unset] [(.int 2)])
        refine og_iload X1119 207 at_205 rfl rfl ?_
        refine og_icmpY X1119 212 at_207 (XT.ii_eq_t (by decide)) (by decide) (by decide) ?_
        refine og_iconst X1119 213 (1 : Int32) at_212 rfl rfl ?_
        refine og_istore X1119 215 #[.val (.int pa), .val (.int pb), .val (.int pc), .val (.int pd), .val (.ref r1), .val (.ref r10), .val (.ref r19), .val (.int 3), .val (.ref b28), .val (.ref b30), .val (.ref b32), .val (.ref r952), .val (.ref r978), .val (.ref r952), .val (.int 2), .val (.int 1)] at_213 rfl rfl ?_
        refine og_iload X1119 217 at_215 rfl rfl ?_
        refine og_iconst X1119 218 (1 : Int32) at_217 rfl rfl ?_
        refine og_icmpN X1119 221 at_218 (XT.ii_lt_f (by decide)) rfl ?_
        refine og_iload X1119 223 at_221 rfl rfl ?_
        refine og_ifN X1119 226 at_223 (XT.i0_eq_f (by decide)) rfl ?_
        refine og_aload X1119 228 at_226 rfl rfl rfl ?_
        refine og_iconst X1119 229 (0 : Int32) at_228 rfl rfl ?_
        have f1120 := f1113.keep K1119
        have f1121 := f1118.keep K1119 nin0
        have f1122 := f980.keep K1019 (ninS (Nat.ne_of_gt (Nat.lt_of_lt_of_le (Nat.lt_of_lt_of_le f20.lt (Nat.le_trans K28.1 K30.1)) G32)) nin0)
        have f1123 := f1122.keep K1027 (ninS (Nat.ne_of_gt (Nat.lt_of_lt_of_le (Nat.lt_of_lt_of_le U28 K30.1) G32)) nin0)
        have f1124 := f1123.keep K1034 (ninS (Nat.ne_of_gt (Nat.lt_of_lt_of_le U30 G32)) nin0)
        have f1125 := f1124.keep K1065 (ninS (Nat.ne_of_gt (Nat.lt_of_lt_of_le (Nat.lt_of_lt_of_le U28 K30.1) G32)) nin0)
        have f1126 := f1125.keep K1071 (ninS (Nat.ne_of_gt (Nat.lt_of_lt_of_le U30 G32)) nin0)
        have f1127 := f1126.keep K1119 nin0
        have f1128 := f983.keep K1019 (ninS (Nat.ne_of_gt (Nat.lt_of_lt_of_le (Nat.lt_of_lt_of_le f20.lt (Nat.le_trans (Nat.le_trans K28.1 K30.1) K32.1)) ge_io36)) nin0)
        have f1129 := f1128.keep K1027 (ninS (Nat.ne_of_gt (Nat.lt_of_lt_of_le (Nat.lt_of_lt_of_le U28 (Nat.le_trans K30.1 K32.1)) ge_io36)) nin0)
        have f1130 := f1129.keep K1034 (ninS (Nat.ne_of_gt (Nat.lt_of_lt_of_le (Nat.lt_of_lt_of_le U30 K32.1) ge_io36)) nin0)
        have f1131 := f1130.keep K1065 (ninS (Nat.ne_of_gt (Nat.lt_of_lt_of_le (Nat.lt_of_lt_of_le U28 (Nat.le_trans K30.1 K32.1)) ge_io36)) nin0)
        have f1132 := f1131.keep K1071 (ninS (Nat.ne_of_gt (Nat.lt_of_lt_of_le (Nat.lt_of_lt_of_le U30 K32.1) ge_io36)) nin0)
        have f1133 := f1132.keep K1119 nin0
        refine own_virt X1119 232 (a := b32) (argsL := [(.int 0)]) (rest := []) at_229 f1120 (fun _ hZ => notFace_of_selects (args := #[]) (mvT hZ (ow hw 130 rfl))) (rt_20 l Z n0 h1119 [] a0 hw hWd X1119.old b32 io36 ki36 r952 r978 f1121 f1127 f1133 ) (ow hw 127 rfl) (ow hw 128 rfl) (ow hw 130 rfl) (ow hw 129 rfl) (ow hw 36 rfl) (ow hw 131 rfl) (by decide) (lenOf pd__28I_29Lcom_2fexample_2fratable_2fratable_2fcore_2fPosted_3b rfl) rfl rfl rfl (W := 0) rfl (by decide) (by decide) (by decide) (by decide) all0 rfl ?_
        intro T1134 h1134 v1134 X1134 K1134 hQ1134
        obtain rfl := hQ1134
        show OGo _ _ _ _ T1134 (mkF m 232 #[.val (.int pa), .val (.int pb), .val (.int pc), .val (.int pd), .val (.ref r1), .val (.ref r10), .val (.ref r19), .val (.int 3), .val (.ref b28), .val (.ref b30), .val (.ref b32), .val (.ref r952), .val (.ref r978), .val (.ref r952), .val (.int 2), .val (.int 1)] [(.ref r952)])
        refine og_aload X1134 234 at_232 rfl rfl rfl ?_
        refine og_iconst X1134 235 (0 : Int32) at_234 rfl rfl ?_
        have f1135 := f1069.keep K1071 (ninS (Nat.ne_of_lt (Nat.lt_of_lt_of_le U28 G30)) nin0)
        have f1136 := f1135.keep K1119 nin0
        have f1137 := f1136.keep K1134 nin0
        refine own_ldR X1134 236 at_235 f1137 rfl (by decide) (by decide) rfl rfl ?_
        refine og_aload X1134 238 at_236 rfl rfl rfl ?_
        refine og_iconst X1134 239 (0 : Int32) at_238 rfl rfl ?_
        have f1138 := f1073.keep K1119 nin0
        have f1139 := f1138.keep K1134 nin0
        refine own_ldR X1134 240 at_239 f1139 rfl (by decide) (by decide) rfl rfl ?_
        have f1140 := f994.keep K1019 (ninS (Nat.ne_of_gt (Nat.lt_of_lt_of_le (Nat.lt_of_lt_of_le f20.lt (Nat.le_trans (Nat.le_trans (Nat.le_trans K28.1 K30.1) K32.1) K36.1)) ge_r952)) nin0)
        have f1141 := f1140.keep K1027 (ninS (Nat.ne_of_gt (Nat.lt_of_lt_of_le (Nat.lt_of_lt_of_le U28 (Nat.le_trans (Nat.le_trans K30.1 K32.1) K36.1)) ge_r952)) nin0)
        have f1142 := f1141.keep K1034 (ninS (Nat.ne_of_gt (Nat.lt_of_lt_of_le (Nat.lt_of_lt_of_le U30 (Nat.le_trans K32.1 K36.1)) ge_r952)) nin0)
        have f1143 := f1142.keep K1065 (ninS (Nat.ne_of_gt (Nat.lt_of_lt_of_le (Nat.lt_of_lt_of_le U28 (Nat.le_trans (Nat.le_trans K30.1 K32.1) K36.1)) ge_r952)) nin0)
        have f1144 := f1143.keep K1071 (ninS (Nat.ne_of_gt (Nat.lt_of_lt_of_le (Nat.lt_of_lt_of_le U30 (Nat.le_trans K32.1 K36.1)) ge_r952)) nin0)
        have f1145 := f1144.keep K1119 nin0
        have f1146 := f1145.keep K1134 nin0
        have f1147 := f1099.keep K1119
        have f1148 := f1147.keep K1134
        have f1149 := f1101.keep K1119 nin0
        have f1150 := f1149.keep K1134 nin0
        have f1151 := f1103.keep K1119 nin0
        have f1152 := f1151.keep K1134 nin0
        have f1153 := f1105.keep K1119 nin0
        have f1154 := f1153.keep K1134 nin0
        refine own_stat X1134 243 (argsL := [(.ref r952), (.ref r952), (.ref r1)]) (rest := []) at_240 (rm22 l Z n0 h1134 [] a0 hw hWd X1134.old r952 r1 t1 kt1 cs1 f1146 f1148 f1150 f1152 f1154 f27 ) (ow hw 140 rfl) (ow hw 141 rfl) (ow hw 2 rfl) (ow hw 142 rfl) (by decide) (lenOf pd__28Lcom_2fexample_2fratable_2fratable_2fcore_2fPosted_3bLcom_2fexample_2fratable_2fratable_2fcore_2fPosted_3bLjava_2flang_2fString_3b_29Z rfl) rfl rfl rfl (W := 0) rfl (by decide) (by decide) (by decide) (by decide) all0 rfl ?_
        intro T1155 h1155 v1155 X1155 K1155 hQ1155
        obtain rfl := hQ1155
        show OGo _ _ _ _ T1155 (mkF m 243 #[.val (.int pa), .val (.int pb), .val (.int pc), .val (.int pd), .val (.ref r1), .val (.ref r10), .val (.ref r19), .val (.int 3), .val (.ref b28), .val (.ref b30), .val (.ref b32), .val (.ref r952), .val (.ref r978), .val (.ref r952), .val (.int 2), .val (.int 1)] [(.int 1)])
        refine og_ifN X1155 246 at_243 (XT.i0_eq_f (by decide)) rfl ?_
        refine og_iconst X1155 247 (1 : Int32) at_246 rfl rfl ?_
        refine og_goto X1155 251 at_247 (by decide) (by decide) ?_
        refine og_istore X1155 253 #[.val (.int pa), .val (.int pb), .val (.int pc), .val (.int pd), .val (.ref r1), .val (.ref r10), .val (.ref r19), .val (.int 3), .val (.ref b28), .val (.ref b30), .val (.ref b32), .val (.ref r952), .val (.ref r978), .val (.ref r952), .val (.int 2), .val (.int 1)] at_251 rfl rfl ?_
        refine og_iload X1155 255 at_253 rfl rfl ?_
        refine og_iconst X1155 256 (2 : Int32) at_255 rfl rfl ?_
        refine og_icmpN X1155 259 at_256 (XT.ii_lt_f (by decide)) rfl ?_
        refine og_iload X1155 261 at_259 rfl rfl ?_
        refine og_ifN X1155 264 at_261 (XT.i0_eq_f (by decide)) rfl ?_
        refine og_aload X1155 266 at_264 rfl rfl rfl ?_
        refine og_iconst X1155 267 (1 : Int32) at_266 rfl rfl ?_
        have f1156 := f1120.keep K1134
        have f1157 := f1156.keep K1155
        have f1158 := f1121.keep K1134 nin0
        have f1159 := f1158.keep K1155 nin0
        have f1160 := f1127.keep K1134 nin0
        have f1161 := f1160.keep K1155 nin0
        have f1162 := f1133.keep K1134 nin0
        have f1163 := f1162.keep K1155 nin0
        refine own_virt X1155 270 (a := b32) (argsL := [(.int 1)]) (rest := []) at_267 f1157 (fun _ hZ => notFace_of_selects (args := #[]) (mvT hZ (ow hw 130 rfl))) (rt_21 l Z n0 h1155 [] a0 hw hWd X1155.old b32 io36 ki36 r952 r978 f1159 f1161 f1163 ) (ow hw 127 rfl) (ow hw 128 rfl) (ow hw 130 rfl) (ow hw 129 rfl) (ow hw 36 rfl) (ow hw 131 rfl) (by decide) (lenOf pd__28I_29Lcom_2fexample_2fratable_2fratable_2fcore_2fPosted_3b rfl) rfl rfl rfl (W := 0) rfl (by decide) (by decide) (by decide) (by decide) all0 rfl ?_
        intro T1164 h1164 v1164 X1164 K1164 hQ1164
        obtain rfl := hQ1164
        show OGo _ _ _ _ T1164 (mkF m 270 #[.val (.int pa), .val (.int pb), .val (.int pc), .val (.int pd), .val (.ref r1), .val (.ref r10), .val (.ref r19), .val (.int 3), .val (.ref b28), .val (.ref b30), .val (.ref b32), .val (.ref r952), .val (.ref r978), .val (.ref r952), .val (.int 2), .val (.int 1)] [(.ref r978)])
        refine og_aload X1164 272 at_270 rfl rfl rfl ?_
        refine og_iconst X1164 273 (1 : Int32) at_272 rfl rfl ?_
        have f1165 := f1137.keep K1155 nin0
        have f1166 := f1165.keep K1164 nin0
        refine own_ldR X1164 274 at_273 f1166 rfl (by decide) (by decide) rfl rfl ?_
        refine og_aload X1164 276 at_274 rfl rfl rfl ?_
        refine og_iconst X1164 277 (1 : Int32) at_276 rfl rfl ?_
        have f1167 := f1139.keep K1155 nin0
        have f1168 := f1167.keep K1164 nin0
        refine own_ldR X1164 278 at_277 f1168 rfl (by decide) (by decide) rfl rfl ?_
        have f1169 := f985.keep K1019 (ninS (Nat.ne_of_gt (Nat.lt_of_lt_of_le (Nat.lt_of_lt_of_le f20.lt (Nat.le_trans (Nat.le_trans (Nat.le_trans (Nat.le_trans K28.1 K30.1) K32.1) K36.1) K952.1)) ge_r978)) nin0)
        have f1170 := f1169.keep K1027 (ninS (Nat.ne_of_gt (Nat.lt_of_lt_of_le (Nat.lt_of_lt_of_le U28 (Nat.le_trans (Nat.le_trans (Nat.le_trans K30.1 K32.1) K36.1) K952.1)) ge_r978)) nin0)
        have f1171 := f1170.keep K1034 (ninS (Nat.ne_of_gt (Nat.lt_of_lt_of_le (Nat.lt_of_lt_of_le U30 (Nat.le_trans (Nat.le_trans K32.1 K36.1) K952.1)) ge_r978)) nin0)
        have f1172 := f1171.keep K1065 (ninS (Nat.ne_of_gt (Nat.lt_of_lt_of_le (Nat.lt_of_lt_of_le U28 (Nat.le_trans (Nat.le_trans (Nat.le_trans K30.1 K32.1) K36.1) K952.1)) ge_r978)) nin0)
        have f1173 := f1172.keep K1071 (ninS (Nat.ne_of_gt (Nat.lt_of_lt_of_le (Nat.lt_of_lt_of_le U30 (Nat.le_trans (Nat.le_trans K32.1 K36.1) K952.1)) ge_r978)) nin0)
        have f1174 := f1173.keep K1119 nin0
        have f1175 := f1174.keep K1134 nin0
        have f1176 := f1175.keep K1155 nin0
        have f1177 := f1176.keep K1164 nin0
        have f1178 := f1072.keep K1071
        have f1179 := f1178.keep K1119
        have f1180 := f1179.keep K1134
        have f1181 := f1180.keep K1155
        have f1182 := f1181.keep K1164
        have f1183 := f1043.keep K1065 (ninS (Nat.ne_of_lt (Nat.lt_of_lt_of_le (Nat.lt_of_lt_of_le f11.lt K19.1) G28)) nin0)
        have f1184 := f1183.keep K1071 (ninS (Nat.ne_of_lt (Nat.lt_of_lt_of_le (Nat.lt_of_lt_of_le f11.lt (Nat.le_trans K19.1 K28.1)) G30)) nin0)
        have f1185 := f1184.keep K1119 nin0
        have f1186 := f1185.keep K1134 nin0
        have f1187 := f1186.keep K1155 nin0
        have f1188 := f1187.keep K1164 nin0
        have f1189 := f1046.keep K1065 (ninS (Nat.ne_of_lt (Nat.lt_of_lt_of_le (Nat.lt_of_lt_of_le f11.lt K19.1) G28)) nin0)
        have f1190 := f1189.keep K1071 (ninS (Nat.ne_of_lt (Nat.lt_of_lt_of_le (Nat.lt_of_lt_of_le f11.lt (Nat.le_trans K19.1 K28.1)) G30)) nin0)
        have f1191 := f1190.keep K1119 nin0
        have f1192 := f1191.keep K1134 nin0
        have f1193 := f1192.keep K1155 nin0
        have f1194 := f1193.keep K1164 nin0
        have f1195 := f1049.keep K1065 (ninS (Nat.ne_of_lt (Nat.lt_of_lt_of_le (Nat.lt_of_lt_of_le f16.lt K19.1) G28)) nin0)
        have f1196 := f1195.keep K1071 (ninS (Nat.ne_of_lt (Nat.lt_of_lt_of_le (Nat.lt_of_lt_of_le f16.lt (Nat.le_trans K19.1 K28.1)) G30)) nin0)
        have f1197 := f1196.keep K1119 nin0
        have f1198 := f1197.keep K1134 nin0
        have f1199 := f1198.keep K1155 nin0
        have f1200 := f1199.keep K1164 nin0
        refine own_stat X1164 281 (argsL := [(.ref r978), (.ref r978), (.ref r10)]) (rest := []) at_278 (rm22 l Z n0 h1164 [] a0 hw hWd X1164.old r978 r10 t10 kt10 cs10 f1177 f1182 f1188 f1194 f1200 f18 ) (ow hw 140 rfl) (ow hw 141 rfl) (ow hw 2 rfl) (ow hw 142 rfl) (by decide) (lenOf pd__28Lcom_2fexample_2fratable_2fratable_2fcore_2fPosted_3bLcom_2fexample_2fratable_2fratable_2fcore_2fPosted_3bLjava_2flang_2fString_3b_29Z rfl) rfl rfl rfl (W := 0) rfl (by decide) (by decide) (by decide) (by decide) all0 rfl ?_
        intro T1201 h1201 v1201 X1201 K1201 hQ1201
        obtain rfl := hQ1201
        show OGo _ _ _ _ T1201 (mkF m 281 #[.val (.int pa), .val (.int pb), .val (.int pc), .val (.int pd), .val (.ref r1), .val (.ref r10), .val (.ref r19), .val (.int 3), .val (.ref b28), .val (.ref b30), .val (.ref b32), .val (.ref r952), .val (.ref r978), .val (.ref r952), .val (.int 2), .val (.int 1)] [(.int 1)])
        refine og_ifN X1201 284 at_281 (XT.i0_eq_f (by decide)) rfl ?_
        refine og_iconst X1201 285 (1 : Int32) at_284 rfl rfl ?_
        refine og_goto X1201 289 at_285 (by decide) (by decide) ?_
        refine og_istore X1201 291 #[.val (.int pa), .val (.int pb), .val (.int pc), .val (.int pd), .val (.ref r1), .val (.ref r10), .val (.ref r19), .val (.int 3), .val (.ref b28), .val (.ref b30), .val (.ref b32), .val (.ref r952), .val (.ref r978), .val (.ref r952), .val (.int 2), .val (.int 1)] at_289 rfl rfl ?_
        refine og_iload X1201 293 at_291 rfl rfl ?_
        refine og_iconst X1201 294 (3 : Int32) at_293 rfl rfl ?_
        refine og_icmpY X1201 329 at_294 (XT.ii_lt_t (by decide)) (by decide) (by decide) ?_
        refine og_iload X1201 331 at_329 rfl rfl ?_
        refine own_retZ X1201 at_331 hret rfl (by decide) (by decide) ?_
        exact rfl
      · -- not
        by_cases hc1202 : cs10 = cs19
        · -- cs10 = cs19
          subst hc1202
          refine og_iload X36 55 at_53 rfl rfl ?_
          refine og_iconst X36 56 (1 : Int32) at_55 rfl rfl ?_
          refine og_icmpN X36 59 at_56 (XT.ii_lt_f (by decide)) rfl ?_
          refine og_aload X36 61 at_59 rfl rfl rfl ?_
          refine og_aload X36 63 at_61 rfl rfl rfl ?_
          have X1203 := own_svA X36 f42 (by decide) (Nat.le_trans (own_n0 X32) ge_io36) (Nat.le_trans (Nat.le_trans (Nat.le_trans (Nat.le_trans (Nat.le_trans (Nat.le_trans K1.1 K10.1) K19.1) K28.1) K30.1) K32.1) ge_io36)
          have X1204 := own_svA X1203 f40 (by decide) (Nat.le_trans (own_n0 X32) ge_bk36) (Nat.le_trans (Nat.le_trans (Nat.le_trans (Nat.le_trans (Nat.le_trans (Nat.le_trans K1.1 K10.1) K19.1) K28.1) K30.1) K32.1) ge_bk36)
          have X1205 := own_svN X1204 rfl f50 (Nat.le_trans (own_n0 X0) ge_r1) ge_r1
          refine own_virt X1205 66 (a := b32) (argsL := [(.ref r1)]) (rest := []) at_63 f155 (fun _ hZ => notFace_of_selects (args := #[]) (mvT hZ (ow hw 49 rfl))) (ro_0n l Z n0 h36 [] a0 hw hWd X1205.old b32 bk36 io36 kb36 ki36 r1 t1 kt1 cs1 f155 f37 f38 f39 f40 f42 f41 f43 f44 f50 f56 f62 f68 f74 f80 f86 f9 (own_svb X36 (om 0 rfl)) (own_svb X1203 (om 0 rfl)) (own_svb X1204 (om 0 rfl)) (own_svb X1205 (om 0 rfl))) (ow hw 46 rfl) (ow hw 47 rfl) (ow hw 49 rfl) (ow hw 48 rfl) (ow hw 36 rfl) (ow hw 50 rfl) (by decide) (lenOf pd__28Ljava_2flang_2fString_3b_29Lcom_2fexample_2fratable_2fratable_2fcore_2fPosted_3b rfl) rfl rfl rfl (W := 0) rfl (by decide) (by decide) (by decide) (by decide) (allS (om 3 rfl) (allS (om 2 rfl) (allS (om 1 rfl) (allS (om 0 rfl) all0)))) rfl ?_
          intro T1206 h1206 v1206 X1206 K1206 hQ1206
          obtain ⟨r1206, rfl, ge_r1206, f1207, f1208, f1209, f1210, f1211, f1212, f1213, f1214, f1215, f1216, f1217, f1218, f1219⟩ := hQ1206
          show OGo _ _ _ _ T1206 (mkF m 66 #[.val (.int pa), .val (.int pb), .val (.int pc), .val (.int pd), .val (.ref r1), .val (.ref r10), .val (.ref r19), .val (.int 3), .val (.ref b28), .val (.ref b30), .val (.ref b32), .val .null, .val .null, .val .null, .unset, .unset] [(.ref r1206)])
          refine og_astore X1206 68 #[.val (.int pa), .val (.int pb), .val (.int pc), .val (.int pd), .val (.ref r1), .val (.ref r10), .val (.ref r19), .val (.int 3), .val (.ref b28), .val (.ref b30), .val (.ref b32), .val (.ref r1206), .val .null, .val .null, .unset, .unset] at_66 rfl rfl rfl ?_
          refine og_iload X1206 70 at_68 rfl rfl ?_
          refine og_iconst X1206 71 (2 : Int32) at_70 rfl rfl ?_
          refine og_icmpN X1206 74 at_71 (XT.ii_lt_f (by decide)) rfl ?_
          refine og_aload X1206 76 at_74 rfl rfl rfl ?_
          refine og_aload X1206 78 at_76 rfl rfl rfl ?_
          have f1220 := f155.keep K1206
          have f1221 := f50.keep K1206
          have f1223 := f80.keep K1206
          have f1222 := f86.keep K1206 (ninS (Nat.ne_of_lt (Nat.lt_of_lt_of_le (Nat.lt_of_lt_of_le f7.lt (Nat.le_trans (Nat.le_trans (Nat.le_trans K10.1 K19.1) K28.1) K30.1)) G32)) (ninS (Nat.ne_of_lt (Nat.lt_of_lt_of_le (Nat.lt_of_lt_of_le f7.lt (Nat.le_trans (Nat.le_trans (Nat.le_trans (Nat.le_trans K10.1 K19.1) K28.1) K30.1) K32.1)) ge_io36)) (ninS (Nat.ne_of_lt (Nat.lt_of_lt_of_le (Nat.lt_of_lt_of_le f7.lt (Nat.le_trans (Nat.le_trans (Nat.le_trans (Nat.le_trans K10.1 K19.1) K28.1) K30.1) K32.1)) ge_bk36)) (ninS (ne_exa f1223 f1221 (by decide)) nin0))))
          have f1224 := f91.keep K1206
          have f1225 := f96.keep K1206 (ninS (Nat.ne_of_lt (Nat.lt_of_lt_of_le (Nat.lt_of_lt_of_le f11.lt (Nat.le_trans (Nat.le_trans K19.1 K28.1) K30.1)) G32)) (ninS (Nat.ne_of_lt (Nat.lt_of_lt_of_le (Nat.lt_of_lt_of_le f11.lt (Nat.le_trans (Nat.le_trans (Nat.le_trans K19.1 K28.1) K30.1) K32.1)) ge_io36)) (ninS (Nat.ne_of_lt (Nat.lt_of_lt_of_le (Nat.lt_of_lt_of_le f11.lt (Nat.le_trans (Nat.le_trans (Nat.le_trans K19.1 K28.1) K30.1) K32.1)) ge_bk36)) (ninS (Nat.ne_of_gt (Nat.lt_of_lt_of_le f2.lt ge_r10)) nin0))))
          have f1226 := f101.keep K1206 (ninS (Nat.ne_of_lt (Nat.lt_of_lt_of_le (Nat.lt_of_lt_of_le f11.lt (Nat.le_trans (Nat.le_trans K19.1 K28.1) K30.1)) G32)) (ninS (Nat.ne_of_lt (Nat.lt_of_lt_of_le (Nat.lt_of_lt_of_le f11.lt (Nat.le_trans (Nat.le_trans (Nat.le_trans K19.1 K28.1) K30.1) K32.1)) ge_io36)) (ninS (Nat.ne_of_lt (Nat.lt_of_lt_of_le (Nat.lt_of_lt_of_le f11.lt (Nat.le_trans (Nat.le_trans (Nat.le_trans K19.1 K28.1) K30.1) K32.1)) ge_bk36)) (ninS (Nat.ne_of_gt (Nat.lt_of_lt_of_le f2.lt ge_r10)) nin0))))
          have f1227 := f106.keep K1206 (ninS (Nat.ne_of_lt (Nat.lt_of_lt_of_le (Nat.lt_of_lt_of_le f11.lt (Nat.le_trans (Nat.le_trans K19.1 K28.1) K30.1)) G32)) (ninS (Nat.ne_of_lt (Nat.lt_of_lt_of_le (Nat.lt_of_lt_of_le f11.lt (Nat.le_trans (Nat.le_trans (Nat.le_trans K19.1 K28.1) K30.1) K32.1)) ge_io36)) (ninS (Nat.ne_of_lt (Nat.lt_of_lt_of_le (Nat.lt_of_lt_of_le f11.lt (Nat.le_trans (Nat.le_trans (Nat.le_trans K19.1 K28.1) K30.1) K32.1)) ge_bk36)) (ninS (Nat.ne_of_gt (Nat.lt_of_lt_of_le f2.lt ge_r10)) nin0))))
          have f1228 := f111.keep K1206 (ninS (Nat.ne_of_lt (Nat.lt_of_lt_of_le (Nat.lt_of_lt_of_le f11.lt (Nat.le_trans (Nat.le_trans K19.1 K28.1) K30.1)) G32)) (ninS (Nat.ne_of_lt (Nat.lt_of_lt_of_le (Nat.lt_of_lt_of_le f11.lt (Nat.le_trans (Nat.le_trans (Nat.le_trans K19.1 K28.1) K30.1) K32.1)) ge_io36)) (ninS (Nat.ne_of_lt (Nat.lt_of_lt_of_le (Nat.lt_of_lt_of_le f11.lt (Nat.le_trans (Nat.le_trans (Nat.le_trans K19.1 K28.1) K30.1) K32.1)) ge_bk36)) (ninS (Nat.ne_of_gt (Nat.lt_of_lt_of_le f2.lt ge_r10)) nin0))))
          have f1229 := f116.keep K1206
          have f1230 := f121.keep K1206 (ninS (Nat.ne_of_lt (Nat.lt_of_lt_of_le (Nat.lt_of_lt_of_le f16.lt (Nat.le_trans (Nat.le_trans K19.1 K28.1) K30.1)) G32)) (ninS (Nat.ne_of_lt (Nat.lt_of_lt_of_le (Nat.lt_of_lt_of_le f16.lt (Nat.le_trans (Nat.le_trans (Nat.le_trans K19.1 K28.1) K30.1) K32.1)) ge_io36)) (ninS (Nat.ne_of_lt (Nat.lt_of_lt_of_le (Nat.lt_of_lt_of_le f16.lt (Nat.le_trans (Nat.le_trans (Nat.le_trans K19.1 K28.1) K30.1) K32.1)) ge_bk36)) (ninS (ne_exa f1229 f1221 (by decide)) nin0))))
          have X1231 := own_svN X1206 rfl f1224 (Nat.le_trans (own_n0 X1) ge_r10) (Nat.le_trans K1.1 ge_r10)
          refine own_virt X1231 81 (a := b32) (argsL := [(.ref r10)]) (rest := []) at_78 f1220 (fun _ hZ => notFace_of_selects (args := #[]) (mvT hZ (ow hw 49 rfl))) (ro_1n l Z n0 h1206 [] a0 hw hWd X1231.old b32 bk36 io36 kb36 ki36 r10 t10 kt10 cs10 r1206 r1 t1 kt1 cs1 f1220 f1207 f1208 f1209 f1210 f1211 f41 f43 f44 f1212 f1213 f1214 f1215 f1221 f1216 f1217 f1222 f9 f1224 f1225 f1226 f1227 f1228 f1229 f1230 f27 (Nat.ne_of_gt (Nat.lt_of_lt_of_le f2.lt ge_r10)) hc948 (own_svb X1206 (om 3 rfl)) (own_svb X1206 (om 2 rfl)) (own_svb X1206 (om 1 rfl)) (own_svb X1231 (om 0 rfl))) (ow hw 46 rfl) (ow hw 47 rfl) (ow hw 49 rfl) (ow hw 48 rfl) (ow hw 36 rfl) (ow hw 50 rfl) (by decide) (lenOf pd__28Ljava_2flang_2fString_3b_29Lcom_2fexample_2fratable_2fratable_2fcore_2fPosted_3b rfl) rfl rfl rfl (W := 0) rfl (by decide) (by decide) (by decide) (by decide) (allS (om 4 rfl) (allS (om 3 rfl) (allS (om 2 rfl) (allS (om 0 rfl) all0)))) rfl ?_
          intro T1232 h1232 v1232 X1232 K1232 hQ1232
          obtain ⟨r1232, rfl, ge_r1232, f1233, f1234, f1235, f1236, f1237, f1238, f1239, f1240, f1241, f1242, f1243, f1244, f1245⟩ := hQ1232
          show OGo _ _ _ _ T1232 (mkF m 81 #[.val (.int pa), .val (.int pb), .val (.int pc), .val (.int pd), .val (.ref r1), .val (.ref r10), .val (.ref r19), .val (.int 3), .val (.ref b28), .val (.ref b30), .val (.ref b32), .val (.ref r1206), .val .null, .val .null, .unset, .unset] [(.ref r1232)])
          refine og_astore X1232 83 #[.val (.int pa), .val (.int pb), .val (.int pc), .val (.int pd), .val (.ref r1), .val (.ref r10), .val (.ref r19), .val (.int 3), .val (.ref b28), .val (.ref b30), .val (.ref b32), .val (.ref r1206), .val (.ref r1232), .val .null, .unset, .unset] at_81 rfl rfl rfl ?_
          refine og_iload X1232 85 at_83 rfl rfl ?_
          refine og_iconst X1232 86 (3 : Int32) at_85 rfl rfl ?_
          refine og_icmpN X1232 89 at_86 (XT.ii_lt_f (by decide)) rfl ?_
          refine og_aload X1232 91 at_89 rfl rfl rfl ?_
          refine og_aload X1232 93 at_91 rfl rfl rfl ?_
          have f1246 := f1220.keep K1232
          have f1247 := f1212.keep K1232
          have f1248 := f1213.keep K1232 (ninS (Nat.ne_of_gt (Nat.lt_of_lt_of_le (Nat.lt_of_lt_of_le U32 K36.1) ge_r1206)) (ninS (Nat.ne_of_gt (Nat.lt_of_lt_of_le f42.lt ge_r1206)) (ninS (Nat.ne_of_gt (Nat.lt_of_lt_of_le f40.lt ge_r1206)) (ninS (Nat.ne_of_gt (Nat.lt_of_lt_of_le (Nat.lt_of_lt_of_le f11.lt (Nat.le_trans (Nat.le_trans (Nat.le_trans (Nat.le_trans K19.1 K28.1) K30.1) K32.1) K36.1)) ge_r1206)) nin0))))
          have f1249 := f1214.keep K1232 (ninS (Nat.ne_of_gt (Nat.lt_of_lt_of_le (Nat.lt_of_lt_of_le U32 K36.1) ge_r1206)) (ninS (Nat.ne_of_gt (Nat.lt_of_lt_of_le f42.lt ge_r1206)) (ninS (Nat.ne_of_gt (Nat.lt_of_lt_of_le f40.lt ge_r1206)) (ninS (Nat.ne_of_gt (Nat.lt_of_lt_of_le (Nat.lt_of_lt_of_le f11.lt (Nat.le_trans (Nat.le_trans (Nat.le_trans (Nat.le_trans K19.1 K28.1) K30.1) K32.1) K36.1)) ge_r1206)) nin0))))
          have f1250 := f1215.keep K1232 (ninS (Nat.ne_of_gt (Nat.lt_of_lt_of_le (Nat.lt_of_lt_of_le U32 K36.1) ge_r1206)) (ninS (Nat.ne_of_gt (Nat.lt_of_lt_of_le f42.lt ge_r1206)) (ninS (Nat.ne_of_gt (Nat.lt_of_lt_of_le f40.lt ge_r1206)) (ninS (Nat.ne_of_gt (Nat.lt_of_lt_of_le (Nat.lt_of_lt_of_le f11.lt (Nat.le_trans (Nat.le_trans (Nat.le_trans (Nat.le_trans K19.1 K28.1) K30.1) K32.1) K36.1)) ge_r1206)) nin0))))
          have f1251 := f1221.keep K1232
          have f1252 := f1216.keep K1232 (ninS (Nat.ne_of_lt (Nat.lt_of_lt_of_le (Nat.lt_of_lt_of_le f2.lt (Nat.le_trans (Nat.le_trans (Nat.le_trans K10.1 K19.1) K28.1) K30.1)) G32)) (ninS (Nat.ne_of_lt (Nat.lt_of_lt_of_le (Nat.lt_of_lt_of_le f2.lt (Nat.le_trans (Nat.le_trans (Nat.le_trans (Nat.le_trans K10.1 K19.1) K28.1) K30.1) K32.1)) ge_io36)) (ninS (Nat.ne_of_lt (Nat.lt_of_lt_of_le (Nat.lt_of_lt_of_le f2.lt (Nat.le_trans (Nat.le_trans (Nat.le_trans (Nat.le_trans K10.1 K19.1) K28.1) K30.1) K32.1)) ge_bk36)) (ninS (Nat.ne_of_lt (Nat.lt_of_lt_of_le f2.lt ge_r10)) nin0))))
          have f1253 := f1217.keep K1232 (ninS (Nat.ne_of_lt (Nat.lt_of_lt_of_le (Nat.lt_of_lt_of_le f2.lt (Nat.le_trans (Nat.le_trans (Nat.le_trans K10.1 K19.1) K28.1) K30.1)) G32)) (ninS (Nat.ne_of_lt (Nat.lt_of_lt_of_le (Nat.lt_of_lt_of_le f2.lt (Nat.le_trans (Nat.le_trans (Nat.le_trans (Nat.le_trans K10.1 K19.1) K28.1) K30.1) K32.1)) ge_io36)) (ninS (Nat.ne_of_lt (Nat.lt_of_lt_of_le (Nat.lt_of_lt_of_le f2.lt (Nat.le_trans (Nat.le_trans (Nat.le_trans (Nat.le_trans K10.1 K19.1) K28.1) K30.1) K32.1)) ge_bk36)) (ninS (Nat.ne_of_lt (Nat.lt_of_lt_of_le f2.lt ge_r10)) nin0))))
          have f1254 := f1222.keep K1232 (ninS (Nat.ne_of_lt (Nat.lt_of_lt_of_le (Nat.lt_of_lt_of_le f7.lt (Nat.le_trans (Nat.le_trans (Nat.le_trans K10.1 K19.1) K28.1) K30.1)) G32)) (ninS (Nat.ne_of_lt (Nat.lt_of_lt_of_le (Nat.lt_of_lt_of_le f7.lt (Nat.le_trans (Nat.le_trans (Nat.le_trans (Nat.le_trans K10.1 K19.1) K28.1) K30.1) K32.1)) ge_io36)) (ninS (Nat.ne_of_lt (Nat.lt_of_lt_of_le (Nat.lt_of_lt_of_le f7.lt (Nat.le_trans (Nat.le_trans (Nat.le_trans (Nat.le_trans K10.1 K19.1) K28.1) K30.1) K32.1)) ge_bk36)) (ninS (Nat.ne_of_lt (Nat.lt_of_lt_of_le f7.lt ge_r10)) nin0))))
          have f1255 := f1224.keep K1232
          have f1257 := f1229.keep K1232
          have f1256 := f1230.keep K1232 (ninS (Nat.ne_of_lt (Nat.lt_of_lt_of_le (Nat.lt_of_lt_of_le f16.lt (Nat.le_trans (Nat.le_trans K19.1 K28.1) K30.1)) G32)) (ninS (Nat.ne_of_lt (Nat.lt_of_lt_of_le (Nat.lt_of_lt_of_le f16.lt (Nat.le_trans (Nat.le_trans (Nat.le_trans K19.1 K28.1) K30.1) K32.1)) ge_io36)) (ninS (Nat.ne_of_lt (Nat.lt_of_lt_of_le (Nat.lt_of_lt_of_le f16.lt (Nat.le_trans (Nat.le_trans (Nat.le_trans K19.1 K28.1) K30.1) K32.1)) ge_bk36)) (ninS (ne_exa f1257 f1255 (by decide)) nin0))))
          have f1258 := f125.keep K1206
          have f1259 := f1258.keep K1232
          have f1260 := f129.keep K1206 (ninS (Nat.ne_of_lt (Nat.lt_of_lt_of_le (Nat.lt_of_lt_of_le f20.lt (Nat.le_trans K28.1 K30.1)) G32)) (ninS (Nat.ne_of_lt (Nat.lt_of_lt_of_le (Nat.lt_of_lt_of_le f20.lt (Nat.le_trans (Nat.le_trans K28.1 K30.1) K32.1)) ge_io36)) (ninS (Nat.ne_of_lt (Nat.lt_of_lt_of_le (Nat.lt_of_lt_of_le f20.lt (Nat.le_trans (Nat.le_trans K28.1 K30.1) K32.1)) ge_bk36)) (ninS (Nat.ne_of_gt (Nat.lt_of_lt_of_le (Nat.lt_of_lt_of_le f2.lt K10.1) ge_r19)) nin0))))
          have f1261 := f1260.keep K1232 (ninS (Nat.ne_of_lt (Nat.lt_of_lt_of_le (Nat.lt_of_lt_of_le f20.lt (Nat.le_trans K28.1 K30.1)) G32)) (ninS (Nat.ne_of_lt (Nat.lt_of_lt_of_le (Nat.lt_of_lt_of_le f20.lt (Nat.le_trans (Nat.le_trans K28.1 K30.1) K32.1)) ge_io36)) (ninS (Nat.ne_of_lt (Nat.lt_of_lt_of_le (Nat.lt_of_lt_of_le f20.lt (Nat.le_trans (Nat.le_trans K28.1 K30.1) K32.1)) ge_bk36)) (ninS (Nat.ne_of_gt (Nat.lt_of_lt_of_le f11.lt ge_r19)) nin0))))
          have f1262 := f133.keep K1206 (ninS (Nat.ne_of_lt (Nat.lt_of_lt_of_le (Nat.lt_of_lt_of_le f20.lt (Nat.le_trans K28.1 K30.1)) G32)) (ninS (Nat.ne_of_lt (Nat.lt_of_lt_of_le (Nat.lt_of_lt_of_le f20.lt (Nat.le_trans (Nat.le_trans K28.1 K30.1) K32.1)) ge_io36)) (ninS (Nat.ne_of_lt (Nat.lt_of_lt_of_le (Nat.lt_of_lt_of_le f20.lt (Nat.le_trans (Nat.le_trans K28.1 K30.1) K32.1)) ge_bk36)) (ninS (Nat.ne_of_gt (Nat.lt_of_lt_of_le (Nat.lt_of_lt_of_le f2.lt K10.1) ge_r19)) nin0))))
          have f1263 := f1262.keep K1232 (ninS (Nat.ne_of_lt (Nat.lt_of_lt_of_le (Nat.lt_of_lt_of_le f20.lt (Nat.le_trans K28.1 K30.1)) G32)) (ninS (Nat.ne_of_lt (Nat.lt_of_lt_of_le (Nat.lt_of_lt_of_le f20.lt (Nat.le_trans (Nat.le_trans K28.1 K30.1) K32.1)) ge_io36)) (ninS (Nat.ne_of_lt (Nat.lt_of_lt_of_le (Nat.lt_of_lt_of_le f20.lt (Nat.le_trans (Nat.le_trans K28.1 K30.1) K32.1)) ge_bk36)) (ninS (Nat.ne_of_gt (Nat.lt_of_lt_of_le f11.lt ge_r19)) nin0))))
          have f1264 := f137.keep K1206 (ninS (Nat.ne_of_lt (Nat.lt_of_lt_of_le (Nat.lt_of_lt_of_le f20.lt (Nat.le_trans K28.1 K30.1)) G32)) (ninS (Nat.ne_of_lt (Nat.lt_of_lt_of_le (Nat.lt_of_lt_of_le f20.lt (Nat.le_trans (Nat.le_trans K28.1 K30.1) K32.1)) ge_io36)) (ninS (Nat.ne_of_lt (Nat.lt_of_lt_of_le (Nat.lt_of_lt_of_le f20.lt (Nat.le_trans (Nat.le_trans K28.1 K30.1) K32.1)) ge_bk36)) (ninS (Nat.ne_of_gt (Nat.lt_of_lt_of_le (Nat.lt_of_lt_of_le f2.lt K10.1) ge_r19)) nin0))))
          have f1265 := f1264.keep K1232 (ninS (Nat.ne_of_lt (Nat.lt_of_lt_of_le (Nat.lt_of_lt_of_le f20.lt (Nat.le_trans K28.1 K30.1)) G32)) (ninS (Nat.ne_of_lt (Nat.lt_of_lt_of_le (Nat.lt_of_lt_of_le f20.lt (Nat.le_trans (Nat.le_trans K28.1 K30.1) K32.1)) ge_io36)) (ninS (Nat.ne_of_lt (Nat.lt_of_lt_of_le (Nat.lt_of_lt_of_le f20.lt (Nat.le_trans (Nat.le_trans K28.1 K30.1) K32.1)) ge_bk36)) (ninS (Nat.ne_of_gt (Nat.lt_of_lt_of_le f11.lt ge_r19)) nin0))))
          have f1266 := f141.keep K1206 (ninS (Nat.ne_of_lt (Nat.lt_of_lt_of_le (Nat.lt_of_lt_of_le f20.lt (Nat.le_trans K28.1 K30.1)) G32)) (ninS (Nat.ne_of_lt (Nat.lt_of_lt_of_le (Nat.lt_of_lt_of_le f20.lt (Nat.le_trans (Nat.le_trans K28.1 K30.1) K32.1)) ge_io36)) (ninS (Nat.ne_of_lt (Nat.lt_of_lt_of_le (Nat.lt_of_lt_of_le f20.lt (Nat.le_trans (Nat.le_trans K28.1 K30.1) K32.1)) ge_bk36)) (ninS (Nat.ne_of_gt (Nat.lt_of_lt_of_le (Nat.lt_of_lt_of_le f2.lt K10.1) ge_r19)) nin0))))
          have f1267 := f1266.keep K1232 (ninS (Nat.ne_of_lt (Nat.lt_of_lt_of_le (Nat.lt_of_lt_of_le f20.lt (Nat.le_trans K28.1 K30.1)) G32)) (ninS (Nat.ne_of_lt (Nat.lt_of_lt_of_le (Nat.lt_of_lt_of_le f20.lt (Nat.le_trans (Nat.le_trans K28.1 K30.1) K32.1)) ge_io36)) (ninS (Nat.ne_of_lt (Nat.lt_of_lt_of_le (Nat.lt_of_lt_of_le f20.lt (Nat.le_trans (Nat.le_trans K28.1 K30.1) K32.1)) ge_bk36)) (ninS (Nat.ne_of_gt (Nat.lt_of_lt_of_le f11.lt ge_r19)) nin0))))
          have f1268 := f145.keep K1206
          have f1269 := f1268.keep K1232
          have f1270 := f149.keep K1206 (ninS (Nat.ne_of_lt (Nat.lt_of_lt_of_le (Nat.lt_of_lt_of_le f25.lt (Nat.le_trans K28.1 K30.1)) G32)) (ninS (Nat.ne_of_lt (Nat.lt_of_lt_of_le (Nat.lt_of_lt_of_le f25.lt (Nat.le_trans (Nat.le_trans K28.1 K30.1) K32.1)) ge_io36)) (ninS (Nat.ne_of_lt (Nat.lt_of_lt_of_le (Nat.lt_of_lt_of_le f25.lt (Nat.le_trans (Nat.le_trans K28.1 K30.1) K32.1)) ge_bk36)) (ninS (ne_exa f1269 f1251 (by decide)) nin0))))
          have f1271 := f1270.keep K1232 (ninS (Nat.ne_of_lt (Nat.lt_of_lt_of_le (Nat.lt_of_lt_of_le f25.lt (Nat.le_trans K28.1 K30.1)) G32)) (ninS (Nat.ne_of_lt (Nat.lt_of_lt_of_le (Nat.lt_of_lt_of_le f25.lt (Nat.le_trans (Nat.le_trans K28.1 K30.1) K32.1)) ge_io36)) (ninS (Nat.ne_of_lt (Nat.lt_of_lt_of_le (Nat.lt_of_lt_of_le f25.lt (Nat.le_trans (Nat.le_trans K28.1 K30.1) K32.1)) ge_bk36)) (ninS (ne_exa f1269 f1255 (by decide)) nin0))))
          have X1272 := own_svN X1232 rfl f1259 (Nat.le_trans (own_n0 X10) ge_r19) (Nat.le_trans (Nat.le_trans K1.1 K10.1) ge_r19)
          refine own_virt X1272 96 (a := b32) (argsL := [(.ref r19)]) (rest := []) at_93 f1246 (fun _ hZ => notFace_of_selects (args := #[]) (mvT hZ (ow hw 49 rfl))) (ro_2f1 l Z n0 h1232 [] a0 hw hWd X1272.old b32 bk36 io36 kb36 ki36 r19 t19 kt19 r1206 r1 t1 kt1 cs1 r1232 r10 t10 kt10 cs10 f1246 f1233 f1234 f1235 f1236 f1237 f41 f43 f44 f1247 f1248 f1249 f1250 f1251 f1252 f1253 f1254 f9 f1238 f1239 f1240 f1241 f1255 f1242 f1243 f1256 f27 f1259 f1261 f1263 f1265 f1267 f1269 f1271 f27 (Nat.ne_of_gt (Nat.lt_of_lt_of_le (Nat.lt_of_lt_of_le f2.lt K10.1) ge_r19)) (Nat.ne_of_gt (Nat.lt_of_lt_of_le f11.lt ge_r19)) hc948 (own_svb X1272 (om 0 rfl))) (ow hw 46 rfl) (ow hw 47 rfl) (ow hw 49 rfl) (ow hw 48 rfl) (ow hw 36 rfl) (ow hw 50 rfl) (by decide) (lenOf pd__28Ljava_2flang_2fString_3b_29Lcom_2fexample_2fratable_2fratable_2fcore_2fPosted_3b rfl) rfl rfl rfl (W := 0) rfl (by decide) (by decide) (by decide) (by decide) (allS (om 0 rfl) all0) rfl ?_
          intro T1273 h1273 v1273 X1273 K1273 hQ1273
          obtain ⟨rfl, f1274, f1275, f1276, f1277⟩ := hQ1273
          show OGo _ _ _ _ T1273 (mkF m 96 #[.val (.int pa), .val (.int pb), .val (.int pc), .val (.int pd), .val (.ref r1), .val (.ref r10), .val (.ref r19), .val (.int 3), .val (.ref b28), .val (.ref b30), .val (.ref b32), .val (.ref r1206), .val (.ref r1232), .val .null, .unset, .unset] [(.ref r1232)])
          refine og_astore X1273 98 #[.val (.int pa), .val (.int pb), .val (.int pc), .val (.int pd), .val (.ref r1), .val (.ref r10), .val (.ref r19), .val (.int 3), .val (.ref b28), .val (.ref b30), .val (.ref b32), .val (.ref r1206), .val (.ref r1232), .val (.ref r1232), .unset, .unset] at_96 rfl rfl rfl ?_
          refine og_iconst X1273 99 (0 : Int32) at_98 rfl rfl ?_
          refine og_istore X1273 101 #[.val (.int pa), .val (.int pb), .val (.int pc), .val (.int pd), .val (.ref r1), .val (.ref r10), .val (.ref r19), .val (.int 3), .val (.ref b28), .val (.ref b30), .val (.ref b32), .val (.ref r1206), .val (.ref r1232), .val (.ref r1232), .val (.int 0), .unset] at_99 rfl rfl ?_
          refine og_iload X1273 103 at_101 rfl rfl ?_
          refine og_iconst X1273 104 (1 : Int32) at_103 rfl rfl ?_
          refine og_icmpN X1273 107 at_104 (XT.ii_lt_f (by decide)) rfl ?_
          refine og_aload X1273 109 at_107 rfl rfl rfl ?_
          refine og_iload X1273 111 at_109 rfl rfl ?_
          refine og_aload X1273 113 at_111 rfl rfl rfl ?_
          have f1278 := f152.keep K1206 (ninS (Nat.ne_of_lt (Nat.lt_of_lt_of_le (Nat.lt_of_lt_of_le U28 K30.1) G32)) (ninS (Nat.ne_of_lt (Nat.lt_of_lt_of_le (Nat.lt_of_lt_of_le U28 (Nat.le_trans K30.1 K32.1)) ge_io36)) (ninS (Nat.ne_of_lt (Nat.lt_of_lt_of_le (Nat.lt_of_lt_of_le U28 (Nat.le_trans K30.1 K32.1)) ge_bk36)) (ninS (Nat.ne_of_gt (Nat.lt_of_lt_of_le (Nat.lt_of_lt_of_le f2.lt (Nat.le_trans K10.1 K19.1)) G28)) nin0))))
          have f1279 := f1278.keep K1232 (ninS (Nat.ne_of_lt (Nat.lt_of_lt_of_le (Nat.lt_of_lt_of_le U28 K30.1) G32)) (ninS (Nat.ne_of_lt (Nat.lt_of_lt_of_le (Nat.lt_of_lt_of_le U28 (Nat.le_trans K30.1 K32.1)) ge_io36)) (ninS (Nat.ne_of_lt (Nat.lt_of_lt_of_le (Nat.lt_of_lt_of_le U28 (Nat.le_trans K30.1 K32.1)) ge_bk36)) (ninS (Nat.ne_of_gt (Nat.lt_of_lt_of_le (Nat.lt_of_lt_of_le f11.lt K19.1) G28)) nin0))))
          have f1280 := f1279.keep K1273 (ninS (Nat.ne_of_gt (Nat.lt_of_lt_of_le f20.lt G28)) nin0)
          have f1282 := f1247.keep K1273
          refine own_stR X1273 114 at_113 f1280 rfl rfl (own_sto f1280 O28 (Ins.self f1282)) (by decide) (by decide) (i := 0) (by decide) (Nat.le_of_ble_eq_true rfl) (om 7 rfl) rfl ?_
          intro T1281 h1281 X1281 W1281 K1281 A1281
          have f1283 : Arv Z h1281 b28 kb28 (.object "com/example/ratable/ratable/core/Posted") (3 : Int32) [(.ref r1206), .null, .null] .null := A1281
          refine og_aload X1281 116 at_114 rfl rfl rfl ?_
          refine og_iload X1281 118 at_116 rfl rfl ?_
          refine og_aload X1281 120 at_118 rfl rfl rfl ?_
          have f1284 := f154.keep K1206 (ninS (Nat.ne_of_lt (Nat.lt_of_lt_of_le U30 G32)) (ninS (Nat.ne_of_lt (Nat.lt_of_lt_of_le (Nat.lt_of_lt_of_le U30 K32.1) ge_io36)) (ninS (Nat.ne_of_lt (Nat.lt_of_lt_of_le (Nat.lt_of_lt_of_le U30 K32.1) ge_bk36)) (ninS (Nat.ne_of_gt (Nat.lt_of_lt_of_le (Nat.lt_of_lt_of_le f2.lt (Nat.le_trans (Nat.le_trans K10.1 K19.1) K28.1)) G30)) nin0))))
          have f1285 := f1284.keep K1232 (ninS (Nat.ne_of_lt (Nat.lt_of_lt_of_le U30 G32)) (ninS (Nat.ne_of_lt (Nat.lt_of_lt_of_le (Nat.lt_of_lt_of_le U30 K32.1) ge_io36)) (ninS (Nat.ne_of_lt (Nat.lt_of_lt_of_le (Nat.lt_of_lt_of_le U30 K32.1) ge_bk36)) (ninS (Nat.ne_of_gt (Nat.lt_of_lt_of_le (Nat.lt_of_lt_of_le f11.lt (Nat.le_trans K19.1 K28.1)) G30)) nin0))))
          have f1286 := f1285.keep K1273 (ninS (Nat.ne_of_gt (Nat.lt_of_lt_of_le (Nat.lt_of_lt_of_le f20.lt K28.1) G30)) nin0)
          have f1287 := f1286.keep K1281 (ninS (Nat.ne_of_gt (Nat.lt_of_lt_of_le U28 G30)) nin0)
          have f1289 := f1251.keep K1273
          have f1290 := f1289.keep K1281
          refine own_stR X1281 121 at_120 f1287 rfl rfl (own_sto f1287 O30 (Ins.self f1290)) (by decide) (by decide) (i := 0) (by decide) (Nat.le_of_ble_eq_true rfl) (om 6 rfl) rfl ?_
          intro T1288 h1288 X1288 W1288 K1288 A1288
          have f1291 : Arv Z h1288 b30 kb30 (.object "java/lang/String") (3 : Int32) [(.ref r1), .null, .null] .null := A1288
          refine og_iinc X1288 124 #[.val (.int pa), .val (.int pb), .val (.int pc), .val (.int pd), .val (.ref r1), .val (.ref r10), .val (.ref r19), .val (.int 3), .val (.ref b28), .val (.ref b30), .val (.ref b32), .val (.ref r1206), .val (.ref r1232), .val (.ref r1232), .val (.int 1), .unset] at_121 rfl rfl rfl ?_
          refine og_iload X1288 126 at_124 rfl rfl ?_
          refine og_iconst X1288 127 (2 : Int32) at_126 rfl rfl ?_
          refine og_icmpN X1288 130 at_127 (XT.ii_lt_f (by decide)) rfl ?_
          refine og_aload X1288 132 at_130 rfl rfl rfl ?_
          refine og_aload X1288 134 at_132 rfl rfl rfl ?_
          have f1292 := f1255.keep K1273
          have f1293 := f1292.keep K1281
          have f1294 := f1293.keep K1288
          have f1295 := f1242.keep K1273 (ninS (Nat.ne_of_lt (Nat.lt_of_lt_of_le f11.lt ge_r19)) nin0)
          have f1296 := f1295.keep K1281 (ninS (Nat.ne_of_lt (Nat.lt_of_lt_of_le (Nat.lt_of_lt_of_le f11.lt K19.1) G28)) nin0)
          have f1297 := f1296.keep K1288 (ninS (Nat.ne_of_lt (Nat.lt_of_lt_of_le (Nat.lt_of_lt_of_le f11.lt (Nat.le_trans K19.1 K28.1)) G30)) nin0)
          have f1298 := f1243.keep K1273 (ninS (Nat.ne_of_lt (Nat.lt_of_lt_of_le f11.lt ge_r19)) nin0)
          have f1299 := f1298.keep K1281 (ninS (Nat.ne_of_lt (Nat.lt_of_lt_of_le (Nat.lt_of_lt_of_le f11.lt K19.1) G28)) nin0)
          have f1300 := f1299.keep K1288 (ninS (Nat.ne_of_lt (Nat.lt_of_lt_of_le (Nat.lt_of_lt_of_le f11.lt (Nat.le_trans K19.1 K28.1)) G30)) nin0)
          have f1301 := f1256.keep K1273 (ninS (Nat.ne_of_lt (Nat.lt_of_lt_of_le f16.lt ge_r19)) nin0)
          have f1302 := f1301.keep K1281 (ninS (Nat.ne_of_lt (Nat.lt_of_lt_of_le (Nat.lt_of_lt_of_le f16.lt K19.1) G28)) nin0)
          have f1303 := f1302.keep K1288 (ninS (Nat.ne_of_lt (Nat.lt_of_lt_of_le (Nat.lt_of_lt_of_le f16.lt (Nat.le_trans K19.1 K28.1)) G30)) nin0)
          have f1304 := own_rawS f1294 f1297 f1300 f1303 f27
          have f1305 := f1290.keep K1288
          have f1306 := f1252.keep K1273 (ninS (Nat.ne_of_lt (Nat.lt_of_lt_of_le (Nat.lt_of_lt_of_le f2.lt K10.1) ge_r19)) nin0)
          have f1307 := f1306.keep K1281 (ninS (Nat.ne_of_lt (Nat.lt_of_lt_of_le (Nat.lt_of_lt_of_le f2.lt (Nat.le_trans K10.1 K19.1)) G28)) nin0)
          have f1308 := f1307.keep K1288 (ninS (Nat.ne_of_lt (Nat.lt_of_lt_of_le (Nat.lt_of_lt_of_le f2.lt (Nat.le_trans (Nat.le_trans K10.1 K19.1) K28.1)) G30)) nin0)
          have f1309 := f1253.keep K1273 (ninS (Nat.ne_of_lt (Nat.lt_of_lt_of_le (Nat.lt_of_lt_of_le f2.lt K10.1) ge_r19)) nin0)
          have f1310 := f1309.keep K1281 (ninS (Nat.ne_of_lt (Nat.lt_of_lt_of_le (Nat.lt_of_lt_of_le f2.lt (Nat.le_trans K10.1 K19.1)) G28)) nin0)
          have f1311 := f1310.keep K1288 (ninS (Nat.ne_of_lt (Nat.lt_of_lt_of_le (Nat.lt_of_lt_of_le f2.lt (Nat.le_trans (Nat.le_trans K10.1 K19.1) K28.1)) G30)) nin0)
          have f1312 := f1254.keep K1273 (ninS (Nat.ne_of_lt (Nat.lt_of_lt_of_le (Nat.lt_of_lt_of_le f7.lt K10.1) ge_r19)) nin0)
          have f1313 := f1312.keep K1281 (ninS (Nat.ne_of_lt (Nat.lt_of_lt_of_le (Nat.lt_of_lt_of_le f7.lt (Nat.le_trans K10.1 K19.1)) G28)) nin0)
          have f1314 := f1313.keep K1288 (ninS (Nat.ne_of_lt (Nat.lt_of_lt_of_le (Nat.lt_of_lt_of_le f7.lt (Nat.le_trans (Nat.le_trans K10.1 K19.1) K28.1)) G30)) nin0)
          have f1315 := own_rawS f1305 f1308 f1311 f1314 f9
          refine own_strEq X1288 137 at_134 f1304 f1315 (own_wE hw) (ow hw 14 rfl) hWd.2.1 hWd.2.2 (ow hw 144 rfl) (ow hw 145 rfl) (ow hw 147 rfl) (ow hw 146 rfl) rfl (W := 0) rfl (by decide) (by decide) (by decide) (by decide) rfl ?_
          intro T1316 X1317
          refine og_ifN X1317 140 at_137 (XT.i0_ne_f (own_eqb0.mpr (fun q => hc948 q.symm))) rfl ?_
          refine og_aload X1317 142 at_140 rfl rfl rfl ?_
          refine og_iload X1317 144 at_142 rfl rfl ?_
          refine og_aload X1317 146 at_144 rfl rfl rfl ?_
          have f1318 := f1283.keep K1288 (ninS (Nat.ne_of_lt (Nat.lt_of_lt_of_le U28 G30)) nin0)
          have f1320 := f1238.keep K1273
          have f1321 := f1320.keep K1281
          have f1322 := f1321.keep K1288
          refine own_stR X1317 147 at_146 f1318 rfl rfl (own_sto f1318 O28 (Ins.self f1322)) (by decide) (by decide) (i := 1) (by decide) (Nat.le_of_ble_eq_true rfl) (om 7 rfl) rfl ?_
          intro T1319 h1319 X1319 W1319 K1319 A1319
          have f1323 : Arv Z h1319 b28 kb28 (.object "com/example/ratable/ratable/core/Posted") (3 : Int32) [(.ref r1206), (.ref r1232), .null] .null := A1319
          refine og_aload X1319 149 at_147 rfl rfl rfl ?_
          refine og_iload X1319 151 at_149 rfl rfl ?_
          refine og_aload X1319 153 at_151 rfl rfl rfl ?_
          have f1324 := f1291.keep K1319 (ninS (Nat.ne_of_gt (Nat.lt_of_lt_of_le U28 G30)) nin0)
          have f1326 := f1294.keep K1319
          refine own_stR X1319 154 at_153 f1324 rfl rfl (own_sto f1324 O30 (Ins.self f1326)) (by decide) (by decide) (i := 1) (by decide) (Nat.le_of_ble_eq_true rfl) (om 6 rfl) rfl ?_
          intro T1325 h1325 X1325 W1325 K1325 A1325
          have f1327 : Arv Z h1325 b30 kb30 (.object "java/lang/String") (3 : Int32) [(.ref r1), (.ref r10), .null] .null := A1325
          refine og_iinc X1325 157 #[.val (.int pa), .val (.int pb), .val (.int pc), .val (.int pd), .val (.ref r1), .val (.ref r10), .val (.ref r19), .val (.int 3), .val (.ref b28), .val (.ref b30), .val (.ref b32), .val (.ref r1206), .val (.ref r1232), .val (.ref r1232), .val (.int 2), .unset] at_154 rfl rfl rfl ?_
          refine og_iload X1325 159 at_157 rfl rfl ?_
          refine og_iconst X1325 160 (3 : Int32) at_159 rfl rfl ?_
          refine og_icmpN X1325 163 at_160 (XT.ii_lt_f (by decide)) rfl ?_
          refine og_aload X1325 165 at_163 rfl rfl rfl ?_
          refine og_aload X1325 167 at_165 rfl rfl rfl ?_
          have f1328 := f1259.keep K1273
          have f1329 := f1328.keep K1281
          have f1330 := f1329.keep K1288
          have f1331 := f1330.keep K1319
          have f1332 := f1331.keep K1325
          have f1333 := f1274.keep K1281 (ninS (Nat.ne_of_lt (Nat.lt_of_lt_of_le f20.lt G28)) nin0)
          have f1334 := f1333.keep K1288 (ninS (Nat.ne_of_lt (Nat.lt_of_lt_of_le (Nat.lt_of_lt_of_le f20.lt K28.1) G30)) nin0)
          have f1335 := f1334.keep K1319 (ninS (Nat.ne_of_lt (Nat.lt_of_lt_of_le f20.lt G28)) nin0)
          have f1336 := f1335.keep K1325 (ninS (Nat.ne_of_lt (Nat.lt_of_lt_of_le (Nat.lt_of_lt_of_le f20.lt K28.1) G30)) nin0)
          have f1337 := f1275.keep K1281 (ninS (Nat.ne_of_lt (Nat.lt_of_lt_of_le f20.lt G28)) nin0)
          have f1338 := f1337.keep K1288 (ninS (Nat.ne_of_lt (Nat.lt_of_lt_of_le (Nat.lt_of_lt_of_le f20.lt K28.1) G30)) nin0)
          have f1339 := f1338.keep K1319 (ninS (Nat.ne_of_lt (Nat.lt_of_lt_of_le f20.lt G28)) nin0)
          have f1340 := f1339.keep K1325 (ninS (Nat.ne_of_lt (Nat.lt_of_lt_of_le (Nat.lt_of_lt_of_le f20.lt K28.1) G30)) nin0)
          have f1342 := f1269.keep K1273
          have f1343 := f1342.keep K1281
          have f1344 := f1343.keep K1288
          have f1345 := f1344.keep K1319
          have f1346 := f1345.keep K1325
          have f1341 := f1271.keep K1273 (ninS (ne_exa f1346 f1332 (by decide)) nin0)
          have f1347 := f1341.keep K1281 (ninS (Nat.ne_of_lt (Nat.lt_of_lt_of_le f25.lt G28)) nin0)
          have f1348 := f1347.keep K1288 (ninS (Nat.ne_of_lt (Nat.lt_of_lt_of_le (Nat.lt_of_lt_of_le f25.lt K28.1) G30)) nin0)
          have f1349 := f1348.keep K1319 (ninS (Nat.ne_of_lt (Nat.lt_of_lt_of_le f25.lt G28)) nin0)
          have f1350 := f1349.keep K1325 (ninS (Nat.ne_of_lt (Nat.lt_of_lt_of_le (Nat.lt_of_lt_of_le f25.lt K28.1) G30)) nin0)
          have f1351 := own_rawS f1332 f1336 f1340 f1350 f27
          have f1352 := f1305.keep K1319
          have f1353 := f1352.keep K1325
          have f1354 := f1308.keep K1319 (ninS (Nat.ne_of_lt (Nat.lt_of_lt_of_le (Nat.lt_of_lt_of_le f2.lt (Nat.le_trans K10.1 K19.1)) G28)) nin0)
          have f1355 := f1354.keep K1325 (ninS (Nat.ne_of_lt (Nat.lt_of_lt_of_le (Nat.lt_of_lt_of_le f2.lt (Nat.le_trans (Nat.le_trans K10.1 K19.1) K28.1)) G30)) nin0)
          have f1356 := f1311.keep K1319 (ninS (Nat.ne_of_lt (Nat.lt_of_lt_of_le (Nat.lt_of_lt_of_le f2.lt (Nat.le_trans K10.1 K19.1)) G28)) nin0)
          have f1357 := f1356.keep K1325 (ninS (Nat.ne_of_lt (Nat.lt_of_lt_of_le (Nat.lt_of_lt_of_le f2.lt (Nat.le_trans (Nat.le_trans K10.1 K19.1) K28.1)) G30)) nin0)
          have f1358 := f1314.keep K1319 (ninS (Nat.ne_of_lt (Nat.lt_of_lt_of_le (Nat.lt_of_lt_of_le f7.lt (Nat.le_trans K10.1 K19.1)) G28)) nin0)
          have f1359 := f1358.keep K1325 (ninS (Nat.ne_of_lt (Nat.lt_of_lt_of_le (Nat.lt_of_lt_of_le f7.lt (Nat.le_trans (Nat.le_trans K10.1 K19.1) K28.1)) G30)) nin0)
          have f1360 := own_rawS f1353 f1355 f1357 f1359 f9
          refine own_strEq X1325 170 at_167 f1351 f1360 (own_wE hw) (ow hw 14 rfl) hWd.2.1 hWd.2.2 (ow hw 144 rfl) (ow hw 145 rfl) (ow hw 147 rfl) (ow hw 146 rfl) rfl (W := 0) rfl (by decide) (by decide) (by decide) (by decide) rfl ?_
          intro T1361 X1362
          refine og_ifN X1362 173 at_170 (XT.i0_ne_f (own_eqb0.mpr (fun q => hc948 q.symm))) rfl ?_
          refine og_aload X1362 175 at_173 rfl rfl rfl ?_
          refine og_aload X1362 177 at_175 rfl rfl rfl ?_
          have f1363 := own_rawS f1332 f1336 f1340 f1350 f27
          have f1364 := f1326.keep K1325
          have f1365 := f1297.keep K1319 (ninS (Nat.ne_of_lt (Nat.lt_of_lt_of_le (Nat.lt_of_lt_of_le f11.lt K19.1) G28)) nin0)
          have f1366 := f1365.keep K1325 (ninS (Nat.ne_of_lt (Nat.lt_of_lt_of_le (Nat.lt_of_lt_of_le f11.lt (Nat.le_trans K19.1 K28.1)) G30)) nin0)
          have f1367 := f1300.keep K1319 (ninS (Nat.ne_of_lt (Nat.lt_of_lt_of_le (Nat.lt_of_lt_of_le f11.lt K19.1) G28)) nin0)
          have f1368 := f1367.keep K1325 (ninS (Nat.ne_of_lt (Nat.lt_of_lt_of_le (Nat.lt_of_lt_of_le f11.lt (Nat.le_trans K19.1 K28.1)) G30)) nin0)
          have f1369 := f1303.keep K1319 (ninS (Nat.ne_of_lt (Nat.lt_of_lt_of_le (Nat.lt_of_lt_of_le f16.lt K19.1) G28)) nin0)
          have f1370 := f1369.keep K1325 (ninS (Nat.ne_of_lt (Nat.lt_of_lt_of_le (Nat.lt_of_lt_of_le f16.lt (Nat.le_trans K19.1 K28.1)) G30)) nin0)
          have f1371 := own_rawS f1364 f1366 f1368 f1370 f27
          refine own_strEq X1362 180 at_177 f1363 f1371 (own_wE hw) (ow hw 14 rfl) hWd.2.1 hWd.2.2 (ow hw 144 rfl) (ow hw 145 rfl) (ow hw 147 rfl) (ow hw 146 rfl) rfl (W := 0) rfl (by decide) (by decide) (by decide) (by decide) rfl ?_
          intro T1372 X1373
          refine og_ifY X1373 200 at_180 (XT.i0_ne_t (own_eqbS _)) (by decide) (by decide) ?_
          refine og_aload X1373 202 at_200 rfl rfl rfl ?_
          have f1374 := f1246.keep K1273
          have f1375 := f1374.keep K1281
          have f1376 := f1375.keep K1288
          have f1377 := f1376.keep K1319
          have f1378 := f1377.keep K1325
          have f1379 := f1235.keep K1273 (ninS (Nat.ne_of_gt (Nat.lt_of_lt_of_le (Nat.lt_of_lt_of_le f20.lt (Nat.le_trans K28.1 K30.1)) G32)) nin0)
          have f1380 := f1379.keep K1281 (ninS (Nat.ne_of_gt (Nat.lt_of_lt_of_le (Nat.lt_of_lt_of_le U28 K30.1) G32)) nin0)
          have f1381 := f1380.keep K1288 (ninS (Nat.ne_of_gt (Nat.lt_of_lt_of_le U30 G32)) nin0)
          have f1382 := f1381.keep K1319 (ninS (Nat.ne_of_gt (Nat.lt_of_lt_of_le (Nat.lt_of_lt_of_le U28 K30.1) G32)) nin0)
          have f1383 := f1382.keep K1325 (ninS (Nat.ne_of_gt (Nat.lt_of_lt_of_le U30 G32)) nin0)
          refine own_virt X1373 205 (a := b32) (argsL := []) (rest := []) at_202 f1378 (fun _ hZ => notFace_of_selects (args := #[]) (mvT hZ (ow hw 125 rfl))) (rm18 l Z n0 h1325 [] a0 hw hWd X1373.old b32 (2 : Int32) f1383 ) (ow hw 122 rfl) (ow hw 123 rfl) (ow hw 125 rfl) (ow hw 124 rfl) (ow hw 36 rfl) (ow hw 126 rfl) (by decide) (lenOf pd__28_29I rfl) rfl rfl rfl (W := 0) rfl (by decide) (by decide) (by decide) (by decide) all0 rfl ?_
          intro T1384 h1384 v1384 X1384 K1384 hQ1384
          obtain rfl := hQ1384
          show OGo _ _ _ _ T1384 (mkF m 205 #[.val (.int pa), .val (.int pb), .val (.int pc), .val (.int pd), .val (.ref r1), .val (.ref r10), .val (.ref r19), .val (.int 3), .val (.ref b28), .val (.ref b30), .val (.ref b32), .val (.ref r1206), .val (.ref r1232), .val (.ref r1232), .val (.int 2), .unset] [(.int 2)])
          refine og_iload X1384 207 at_205 rfl rfl ?_
          refine og_icmpY X1384 212 at_207 (XT.ii_eq_t (by decide)) (by decide) (by decide) ?_
          refine og_iconst X1384 213 (1 : Int32) at_212 rfl rfl ?_
          refine og_istore X1384 215 #[.val (.int pa), .val (.int pb), .val (.int pc), .val (.int pd), .val (.ref r1), .val (.ref r10), .val (.ref r19), .val (.int 3), .val (.ref b28), .val (.ref b30), .val (.ref b32), .val (.ref r1206), .val (.ref r1232), .val (.ref r1232), .val (.int 2), .val (.int 1)] at_213 rfl rfl ?_
          refine og_iload X1384 217 at_215 rfl rfl ?_
          refine og_iconst X1384 218 (1 : Int32) at_217 rfl rfl ?_
          refine og_icmpN X1384 221 at_218 (XT.ii_lt_f (by decide)) rfl ?_
          refine og_iload X1384 223 at_221 rfl rfl ?_
          refine og_ifN X1384 226 at_223 (XT.i0_eq_f (by decide)) rfl ?_
          refine og_aload X1384 228 at_226 rfl rfl rfl ?_
          refine og_iconst X1384 229 (0 : Int32) at_228 rfl rfl ?_
          have f1385 := f1378.keep K1384
          have f1386 := f1383.keep K1384 nin0
          have f1387 := f1234.keep K1273 (ninS (Nat.ne_of_gt (Nat.lt_of_lt_of_le (Nat.lt_of_lt_of_le f20.lt (Nat.le_trans K28.1 K30.1)) G32)) nin0)
          have f1388 := f1387.keep K1281 (ninS (Nat.ne_of_gt (Nat.lt_of_lt_of_le (Nat.lt_of_lt_of_le U28 K30.1) G32)) nin0)
          have f1389 := f1388.keep K1288 (ninS (Nat.ne_of_gt (Nat.lt_of_lt_of_le U30 G32)) nin0)
          have f1390 := f1389.keep K1319 (ninS (Nat.ne_of_gt (Nat.lt_of_lt_of_le (Nat.lt_of_lt_of_le U28 K30.1) G32)) nin0)
          have f1391 := f1390.keep K1325 (ninS (Nat.ne_of_gt (Nat.lt_of_lt_of_le U30 G32)) nin0)
          have f1392 := f1391.keep K1384 nin0
          have f1393 := f1237.keep K1273 (ninS (Nat.ne_of_gt (Nat.lt_of_lt_of_le (Nat.lt_of_lt_of_le f20.lt (Nat.le_trans (Nat.le_trans K28.1 K30.1) K32.1)) ge_io36)) nin0)
          have f1394 := f1393.keep K1281 (ninS (Nat.ne_of_gt (Nat.lt_of_lt_of_le (Nat.lt_of_lt_of_le U28 (Nat.le_trans K30.1 K32.1)) ge_io36)) nin0)
          have f1395 := f1394.keep K1288 (ninS (Nat.ne_of_gt (Nat.lt_of_lt_of_le (Nat.lt_of_lt_of_le U30 K32.1) ge_io36)) nin0)
          have f1396 := f1395.keep K1319 (ninS (Nat.ne_of_gt (Nat.lt_of_lt_of_le (Nat.lt_of_lt_of_le U28 (Nat.le_trans K30.1 K32.1)) ge_io36)) nin0)
          have f1397 := f1396.keep K1325 (ninS (Nat.ne_of_gt (Nat.lt_of_lt_of_le (Nat.lt_of_lt_of_le U30 K32.1) ge_io36)) nin0)
          have f1398 := f1397.keep K1384 nin0
          refine own_virt X1384 232 (a := b32) (argsL := [(.int 0)]) (rest := []) at_229 f1385 (fun _ hZ => notFace_of_selects (args := #[]) (mvT hZ (ow hw 130 rfl))) (rt_20 l Z n0 h1384 [] a0 hw hWd X1384.old b32 io36 ki36 r1206 r1232 f1386 f1392 f1398 ) (ow hw 127 rfl) (ow hw 128 rfl) (ow hw 130 rfl) (ow hw 129 rfl) (ow hw 36 rfl) (ow hw 131 rfl) (by decide) (lenOf pd__28I_29Lcom_2fexample_2fratable_2fratable_2fcore_2fPosted_3b rfl) rfl rfl rfl (W := 0) rfl (by decide) (by decide) (by decide) (by decide) all0 rfl ?_
          intro T1399 h1399 v1399 X1399 K1399 hQ1399
          obtain rfl := hQ1399
          show OGo _ _ _ _ T1399 (mkF m 232 #[.val (.int pa), .val (.int pb), .val (.int pc), .val (.int pd), .val (.ref r1), .val (.ref r10), .val (.ref r19), .val (.int 3), .val (.ref b28), .val (.ref b30), .val (.ref b32), .val (.ref r1206), .val (.ref r1232), .val (.ref r1232), .val (.int 2), .val (.int 1)] [(.ref r1206)])
          refine og_aload X1399 234 at_232 rfl rfl rfl ?_
          refine og_iconst X1399 235 (0 : Int32) at_234 rfl rfl ?_
          have f1400 := f1323.keep K1325 (ninS (Nat.ne_of_lt (Nat.lt_of_lt_of_le U28 G30)) nin0)
          have f1401 := f1400.keep K1384 nin0
          have f1402 := f1401.keep K1399 nin0
          refine own_ldR X1399 236 at_235 f1402 rfl (by decide) (by decide) rfl rfl ?_
          refine og_aload X1399 238 at_236 rfl rfl rfl ?_
          refine og_iconst X1399 239 (0 : Int32) at_238 rfl rfl ?_
          have f1403 := f1327.keep K1384 nin0
          have f1404 := f1403.keep K1399 nin0
          refine own_ldR X1399 240 at_239 f1404 rfl (by decide) (by decide) rfl rfl ?_
          have f1405 := f1248.keep K1273 (ninS (Nat.ne_of_gt (Nat.lt_of_lt_of_le (Nat.lt_of_lt_of_le f20.lt (Nat.le_trans (Nat.le_trans (Nat.le_trans K28.1 K30.1) K32.1) K36.1)) ge_r1206)) nin0)
          have f1406 := f1405.keep K1281 (ninS (Nat.ne_of_gt (Nat.lt_of_lt_of_le (Nat.lt_of_lt_of_le U28 (Nat.le_trans (Nat.le_trans K30.1 K32.1) K36.1)) ge_r1206)) nin0)
          have f1407 := f1406.keep K1288 (ninS (Nat.ne_of_gt (Nat.lt_of_lt_of_le (Nat.lt_of_lt_of_le U30 (Nat.le_trans K32.1 K36.1)) ge_r1206)) nin0)
          have f1408 := f1407.keep K1319 (ninS (Nat.ne_of_gt (Nat.lt_of_lt_of_le (Nat.lt_of_lt_of_le U28 (Nat.le_trans (Nat.le_trans K30.1 K32.1) K36.1)) ge_r1206)) nin0)
          have f1409 := f1408.keep K1325 (ninS (Nat.ne_of_gt (Nat.lt_of_lt_of_le (Nat.lt_of_lt_of_le U30 (Nat.le_trans K32.1 K36.1)) ge_r1206)) nin0)
          have f1410 := f1409.keep K1384 nin0
          have f1411 := f1410.keep K1399 nin0
          have f1412 := f1353.keep K1384
          have f1413 := f1412.keep K1399
          have f1414 := f1355.keep K1384 nin0
          have f1415 := f1414.keep K1399 nin0
          have f1416 := f1357.keep K1384 nin0
          have f1417 := f1416.keep K1399 nin0
          have f1418 := f1359.keep K1384 nin0
          have f1419 := f1418.keep K1399 nin0
          refine own_stat X1399 243 (argsL := [(.ref r1206), (.ref r1206), (.ref r1)]) (rest := []) at_240 (rm22 l Z n0 h1399 [] a0 hw hWd X1399.old r1206 r1 t1 kt1 cs1 f1411 f1413 f1415 f1417 f1419 f9 ) (ow hw 140 rfl) (ow hw 141 rfl) (ow hw 2 rfl) (ow hw 142 rfl) (by decide) (lenOf pd__28Lcom_2fexample_2fratable_2fratable_2fcore_2fPosted_3bLcom_2fexample_2fratable_2fratable_2fcore_2fPosted_3bLjava_2flang_2fString_3b_29Z rfl) rfl rfl rfl (W := 0) rfl (by decide) (by decide) (by decide) (by decide) all0 rfl ?_
          intro T1420 h1420 v1420 X1420 K1420 hQ1420
          obtain rfl := hQ1420
          show OGo _ _ _ _ T1420 (mkF m 243 #[.val (.int pa), .val (.int pb), .val (.int pc), .val (.int pd), .val (.ref r1), .val (.ref r10), .val (.ref r19), .val (.int 3), .val (.ref b28), .val (.ref b30), .val (.ref b32), .val (.ref r1206), .val (.ref r1232), .val (.ref r1232), .val (.int 2), .val (.int 1)] [(.int 1)])
          refine og_ifN X1420 246 at_243 (XT.i0_eq_f (by decide)) rfl ?_
          refine og_iconst X1420 247 (1 : Int32) at_246 rfl rfl ?_
          refine og_goto X1420 251 at_247 (by decide) (by decide) ?_
          refine og_istore X1420 253 #[.val (.int pa), .val (.int pb), .val (.int pc), .val (.int pd), .val (.ref r1), .val (.ref r10), .val (.ref r19), .val (.int 3), .val (.ref b28), .val (.ref b30), .val (.ref b32), .val (.ref r1206), .val (.ref r1232), .val (.ref r1232), .val (.int 2), .val (.int 1)] at_251 rfl rfl ?_
          refine og_iload X1420 255 at_253 rfl rfl ?_
          refine og_iconst X1420 256 (2 : Int32) at_255 rfl rfl ?_
          refine og_icmpN X1420 259 at_256 (XT.ii_lt_f (by decide)) rfl ?_
          refine og_iload X1420 261 at_259 rfl rfl ?_
          refine og_ifN X1420 264 at_261 (XT.i0_eq_f (by decide)) rfl ?_
          refine og_aload X1420 266 at_264 rfl rfl rfl ?_
          refine og_iconst X1420 267 (1 : Int32) at_266 rfl rfl ?_
          have f1421 := f1385.keep K1399
          have f1422 := f1421.keep K1420
          have f1423 := f1386.keep K1399 nin0
          have f1424 := f1423.keep K1420 nin0
          have f1425 := f1392.keep K1399 nin0
          have f1426 := f1425.keep K1420 nin0
          have f1427 := f1398.keep K1399 nin0
          have f1428 := f1427.keep K1420 nin0
          refine own_virt X1420 270 (a := b32) (argsL := [(.int 1)]) (rest := []) at_267 f1422 (fun _ hZ => notFace_of_selects (args := #[]) (mvT hZ (ow hw 130 rfl))) (rt_21 l Z n0 h1420 [] a0 hw hWd X1420.old b32 io36 ki36 r1206 r1232 f1424 f1426 f1428 ) (ow hw 127 rfl) (ow hw 128 rfl) (ow hw 130 rfl) (ow hw 129 rfl) (ow hw 36 rfl) (ow hw 131 rfl) (by decide) (lenOf pd__28I_29Lcom_2fexample_2fratable_2fratable_2fcore_2fPosted_3b rfl) rfl rfl rfl (W := 0) rfl (by decide) (by decide) (by decide) (by decide) all0 rfl ?_
          intro T1429 h1429 v1429 X1429 K1429 hQ1429
          obtain rfl := hQ1429
          show OGo _ _ _ _ T1429 (mkF m 270 #[.val (.int pa), .val (.int pb), .val (.int pc), .val (.int pd), .val (.ref r1), .val (.ref r10), .val (.ref r19), .val (.int 3), .val (.ref b28), .val (.ref b30), .val (.ref b32), .val (.ref r1206), .val (.ref r1232), .val (.ref r1232), .val (.int 2), .val (.int 1)] [(.ref r1232)])
          refine og_aload X1429 272 at_270 rfl rfl rfl ?_
          refine og_iconst X1429 273 (1 : Int32) at_272 rfl rfl ?_
          have f1430 := f1402.keep K1420 nin0
          have f1431 := f1430.keep K1429 nin0
          refine own_ldR X1429 274 at_273 f1431 rfl (by decide) (by decide) rfl rfl ?_
          refine og_aload X1429 276 at_274 rfl rfl rfl ?_
          refine og_iconst X1429 277 (1 : Int32) at_276 rfl rfl ?_
          have f1432 := f1404.keep K1420 nin0
          have f1433 := f1432.keep K1429 nin0
          refine own_ldR X1429 278 at_277 f1433 rfl (by decide) (by decide) rfl rfl ?_
          have f1434 := f1239.keep K1273 (ninS (Nat.ne_of_gt (Nat.lt_of_lt_of_le (Nat.lt_of_lt_of_le f20.lt (Nat.le_trans (Nat.le_trans (Nat.le_trans (Nat.le_trans K28.1 K30.1) K32.1) K36.1) K1206.1)) ge_r1232)) nin0)
          have f1435 := f1434.keep K1281 (ninS (Nat.ne_of_gt (Nat.lt_of_lt_of_le (Nat.lt_of_lt_of_le U28 (Nat.le_trans (Nat.le_trans (Nat.le_trans K30.1 K32.1) K36.1) K1206.1)) ge_r1232)) nin0)
          have f1436 := f1435.keep K1288 (ninS (Nat.ne_of_gt (Nat.lt_of_lt_of_le (Nat.lt_of_lt_of_le U30 (Nat.le_trans (Nat.le_trans K32.1 K36.1) K1206.1)) ge_r1232)) nin0)
          have f1437 := f1436.keep K1319 (ninS (Nat.ne_of_gt (Nat.lt_of_lt_of_le (Nat.lt_of_lt_of_le U28 (Nat.le_trans (Nat.le_trans (Nat.le_trans K30.1 K32.1) K36.1) K1206.1)) ge_r1232)) nin0)
          have f1438 := f1437.keep K1325 (ninS (Nat.ne_of_gt (Nat.lt_of_lt_of_le (Nat.lt_of_lt_of_le U30 (Nat.le_trans (Nat.le_trans K32.1 K36.1) K1206.1)) ge_r1232)) nin0)
          have f1439 := f1438.keep K1384 nin0
          have f1440 := f1439.keep K1399 nin0
          have f1441 := f1440.keep K1420 nin0
          have f1442 := f1441.keep K1429 nin0
          have f1443 := f1364.keep K1384
          have f1444 := f1443.keep K1399
          have f1445 := f1444.keep K1420
          have f1446 := f1445.keep K1429
          have f1447 := f1366.keep K1384 nin0
          have f1448 := f1447.keep K1399 nin0
          have f1449 := f1448.keep K1420 nin0
          have f1450 := f1449.keep K1429 nin0
          have f1451 := f1368.keep K1384 nin0
          have f1452 := f1451.keep K1399 nin0
          have f1453 := f1452.keep K1420 nin0
          have f1454 := f1453.keep K1429 nin0
          have f1455 := f1370.keep K1384 nin0
          have f1456 := f1455.keep K1399 nin0
          have f1457 := f1456.keep K1420 nin0
          have f1458 := f1457.keep K1429 nin0
          refine own_stat X1429 281 (argsL := [(.ref r1232), (.ref r1232), (.ref r10)]) (rest := []) at_278 (rm22 l Z n0 h1429 [] a0 hw hWd X1429.old r1232 r10 t10 kt10 cs10 f1442 f1446 f1450 f1454 f1458 f27 ) (ow hw 140 rfl) (ow hw 141 rfl) (ow hw 2 rfl) (ow hw 142 rfl) (by decide) (lenOf pd__28Lcom_2fexample_2fratable_2fratable_2fcore_2fPosted_3bLcom_2fexample_2fratable_2fratable_2fcore_2fPosted_3bLjava_2flang_2fString_3b_29Z rfl) rfl rfl rfl (W := 0) rfl (by decide) (by decide) (by decide) (by decide) all0 rfl ?_
          intro T1459 h1459 v1459 X1459 K1459 hQ1459
          obtain rfl := hQ1459
          show OGo _ _ _ _ T1459 (mkF m 281 #[.val (.int pa), .val (.int pb), .val (.int pc), .val (.int pd), .val (.ref r1), .val (.ref r10), .val (.ref r19), .val (.int 3), .val (.ref b28), .val (.ref b30), .val (.ref b32), .val (.ref r1206), .val (.ref r1232), .val (.ref r1232), .val (.int 2), .val (.int 1)] [(.int 1)])
          refine og_ifN X1459 284 at_281 (XT.i0_eq_f (by decide)) rfl ?_
          refine og_iconst X1459 285 (1 : Int32) at_284 rfl rfl ?_
          refine og_goto X1459 289 at_285 (by decide) (by decide) ?_
          refine og_istore X1459 291 #[.val (.int pa), .val (.int pb), .val (.int pc), .val (.int pd), .val (.ref r1), .val (.ref r10), .val (.ref r19), .val (.int 3), .val (.ref b28), .val (.ref b30), .val (.ref b32), .val (.ref r1206), .val (.ref r1232), .val (.ref r1232), .val (.int 2), .val (.int 1)] at_289 rfl rfl ?_
          refine og_iload X1459 293 at_291 rfl rfl ?_
          refine og_iconst X1459 294 (3 : Int32) at_293 rfl rfl ?_
          refine og_icmpY X1459 329 at_294 (XT.ii_lt_t (by decide)) (by decide) (by decide) ?_
          refine og_iload X1459 331 at_329 rfl rfl ?_
          refine own_retZ X1459 at_331 hret rfl (by decide) (by decide) ?_
          exact rfl
        · -- not
          refine og_iload X36 55 at_53 rfl rfl ?_
          refine og_iconst X36 56 (1 : Int32) at_55 rfl rfl ?_
          refine og_icmpN X36 59 at_56 (XT.ii_lt_f (by decide)) rfl ?_
          refine og_aload X36 61 at_59 rfl rfl rfl ?_
          refine og_aload X36 63 at_61 rfl rfl rfl ?_
          have X1460 := own_svA X36 f42 (by decide) (Nat.le_trans (own_n0 X32) ge_io36) (Nat.le_trans (Nat.le_trans (Nat.le_trans (Nat.le_trans (Nat.le_trans (Nat.le_trans K1.1 K10.1) K19.1) K28.1) K30.1) K32.1) ge_io36)
          have X1461 := own_svA X1460 f40 (by decide) (Nat.le_trans (own_n0 X32) ge_bk36) (Nat.le_trans (Nat.le_trans (Nat.le_trans (Nat.le_trans (Nat.le_trans (Nat.le_trans K1.1 K10.1) K19.1) K28.1) K30.1) K32.1) ge_bk36)
          have X1462 := own_svN X1461 rfl f50 (Nat.le_trans (own_n0 X0) ge_r1) ge_r1
          refine own_virt X1462 66 (a := b32) (argsL := [(.ref r1)]) (rest := []) at_63 f155 (fun _ hZ => notFace_of_selects (args := #[]) (mvT hZ (ow hw 49 rfl))) (ro_0n l Z n0 h36 [] a0 hw hWd X1462.old b32 bk36 io36 kb36 ki36 r1 t1 kt1 cs1 f155 f37 f38 f39 f40 f42 f41 f43 f44 f50 f56 f62 f68 f74 f80 f86 f9 (own_svb X36 (om 0 rfl)) (own_svb X1460 (om 0 rfl)) (own_svb X1461 (om 0 rfl)) (own_svb X1462 (om 0 rfl))) (ow hw 46 rfl) (ow hw 47 rfl) (ow hw 49 rfl) (ow hw 48 rfl) (ow hw 36 rfl) (ow hw 50 rfl) (by decide) (lenOf pd__28Ljava_2flang_2fString_3b_29Lcom_2fexample_2fratable_2fratable_2fcore_2fPosted_3b rfl) rfl rfl rfl (W := 0) rfl (by decide) (by decide) (by decide) (by decide) (allS (om 3 rfl) (allS (om 2 rfl) (allS (om 1 rfl) (allS (om 0 rfl) all0)))) rfl ?_
          intro T1463 h1463 v1463 X1463 K1463 hQ1463
          obtain ⟨r1463, rfl, ge_r1463, f1464, f1465, f1466, f1467, f1468, f1469, f1470, f1471, f1472, f1473, f1474, f1475, f1476⟩ := hQ1463
          show OGo _ _ _ _ T1463 (mkF m 66 #[.val (.int pa), .val (.int pb), .val (.int pc), .val (.int pd), .val (.ref r1), .val (.ref r10), .val (.ref r19), .val (.int 3), .val (.ref b28), .val (.ref b30), .val (.ref b32), .val .null, .val .null, .val .null, .unset, .unset] [(.ref r1463)])
          refine og_astore X1463 68 #[.val (.int pa), .val (.int pb), .val (.int pc), .val (.int pd), .val (.ref r1), .val (.ref r10), .val (.ref r19), .val (.int 3), .val (.ref b28), .val (.ref b30), .val (.ref b32), .val (.ref r1463), .val .null, .val .null, .unset, .unset] at_66 rfl rfl rfl ?_
          refine og_iload X1463 70 at_68 rfl rfl ?_
          refine og_iconst X1463 71 (2 : Int32) at_70 rfl rfl ?_
          refine og_icmpN X1463 74 at_71 (XT.ii_lt_f (by decide)) rfl ?_
          refine og_aload X1463 76 at_74 rfl rfl rfl ?_
          refine og_aload X1463 78 at_76 rfl rfl rfl ?_
          have f1477 := f155.keep K1463
          have f1478 := f50.keep K1463
          have f1480 := f80.keep K1463
          have f1479 := f86.keep K1463 (ninS (Nat.ne_of_lt (Nat.lt_of_lt_of_le (Nat.lt_of_lt_of_le f7.lt (Nat.le_trans (Nat.le_trans (Nat.le_trans K10.1 K19.1) K28.1) K30.1)) G32)) (ninS (Nat.ne_of_lt (Nat.lt_of_lt_of_le (Nat.lt_of_lt_of_le f7.lt (Nat.le_trans (Nat.le_trans (Nat.le_trans (Nat.le_trans K10.1 K19.1) K28.1) K30.1) K32.1)) ge_io36)) (ninS (Nat.ne_of_lt (Nat.lt_of_lt_of_le (Nat.lt_of_lt_of_le f7.lt (Nat.le_trans (Nat.le_trans (Nat.le_trans (Nat.le_trans K10.1 K19.1) K28.1) K30.1) K32.1)) ge_bk36)) (ninS (ne_exa f1480 f1478 (by decide)) nin0))))
          have f1481 := f91.keep K1463
          have f1482 := f96.keep K1463 (ninS (Nat.ne_of_lt (Nat.lt_of_lt_of_le (Nat.lt_of_lt_of_le f11.lt (Nat.le_trans (Nat.le_trans K19.1 K28.1) K30.1)) G32)) (ninS (Nat.ne_of_lt (Nat.lt_of_lt_of_le (Nat.lt_of_lt_of_le f11.lt (Nat.le_trans (Nat.le_trans (Nat.le_trans K19.1 K28.1) K30.1) K32.1)) ge_io36)) (ninS (Nat.ne_of_lt (Nat.lt_of_lt_of_le (Nat.lt_of_lt_of_le f11.lt (Nat.le_trans (Nat.le_trans (Nat.le_trans K19.1 K28.1) K30.1) K32.1)) ge_bk36)) (ninS (Nat.ne_of_gt (Nat.lt_of_lt_of_le f2.lt ge_r10)) nin0))))
          have f1483 := f101.keep K1463 (ninS (Nat.ne_of_lt (Nat.lt_of_lt_of_le (Nat.lt_of_lt_of_le f11.lt (Nat.le_trans (Nat.le_trans K19.1 K28.1) K30.1)) G32)) (ninS (Nat.ne_of_lt (Nat.lt_of_lt_of_le (Nat.lt_of_lt_of_le f11.lt (Nat.le_trans (Nat.le_trans (Nat.le_trans K19.1 K28.1) K30.1) K32.1)) ge_io36)) (ninS (Nat.ne_of_lt (Nat.lt_of_lt_of_le (Nat.lt_of_lt_of_le f11.lt (Nat.le_trans (Nat.le_trans (Nat.le_trans K19.1 K28.1) K30.1) K32.1)) ge_bk36)) (ninS (Nat.ne_of_gt (Nat.lt_of_lt_of_le f2.lt ge_r10)) nin0))))
          have f1484 := f106.keep K1463 (ninS (Nat.ne_of_lt (Nat.lt_of_lt_of_le (Nat.lt_of_lt_of_le f11.lt (Nat.le_trans (Nat.le_trans K19.1 K28.1) K30.1)) G32)) (ninS (Nat.ne_of_lt (Nat.lt_of_lt_of_le (Nat.lt_of_lt_of_le f11.lt (Nat.le_trans (Nat.le_trans (Nat.le_trans K19.1 K28.1) K30.1) K32.1)) ge_io36)) (ninS (Nat.ne_of_lt (Nat.lt_of_lt_of_le (Nat.lt_of_lt_of_le f11.lt (Nat.le_trans (Nat.le_trans (Nat.le_trans K19.1 K28.1) K30.1) K32.1)) ge_bk36)) (ninS (Nat.ne_of_gt (Nat.lt_of_lt_of_le f2.lt ge_r10)) nin0))))
          have f1485 := f111.keep K1463 (ninS (Nat.ne_of_lt (Nat.lt_of_lt_of_le (Nat.lt_of_lt_of_le f11.lt (Nat.le_trans (Nat.le_trans K19.1 K28.1) K30.1)) G32)) (ninS (Nat.ne_of_lt (Nat.lt_of_lt_of_le (Nat.lt_of_lt_of_le f11.lt (Nat.le_trans (Nat.le_trans (Nat.le_trans K19.1 K28.1) K30.1) K32.1)) ge_io36)) (ninS (Nat.ne_of_lt (Nat.lt_of_lt_of_le (Nat.lt_of_lt_of_le f11.lt (Nat.le_trans (Nat.le_trans (Nat.le_trans K19.1 K28.1) K30.1) K32.1)) ge_bk36)) (ninS (Nat.ne_of_gt (Nat.lt_of_lt_of_le f2.lt ge_r10)) nin0))))
          have f1486 := f116.keep K1463
          have f1487 := f121.keep K1463 (ninS (Nat.ne_of_lt (Nat.lt_of_lt_of_le (Nat.lt_of_lt_of_le f16.lt (Nat.le_trans (Nat.le_trans K19.1 K28.1) K30.1)) G32)) (ninS (Nat.ne_of_lt (Nat.lt_of_lt_of_le (Nat.lt_of_lt_of_le f16.lt (Nat.le_trans (Nat.le_trans (Nat.le_trans K19.1 K28.1) K30.1) K32.1)) ge_io36)) (ninS (Nat.ne_of_lt (Nat.lt_of_lt_of_le (Nat.lt_of_lt_of_le f16.lt (Nat.le_trans (Nat.le_trans (Nat.le_trans K19.1 K28.1) K30.1) K32.1)) ge_bk36)) (ninS (ne_exa f1486 f1478 (by decide)) nin0))))
          have X1488 := own_svN X1463 rfl f1481 (Nat.le_trans (own_n0 X1) ge_r10) (Nat.le_trans K1.1 ge_r10)
          refine own_virt X1488 81 (a := b32) (argsL := [(.ref r10)]) (rest := []) at_78 f1477 (fun _ hZ => notFace_of_selects (args := #[]) (mvT hZ (ow hw 49 rfl))) (ro_1n l Z n0 h1463 [] a0 hw hWd X1488.old b32 bk36 io36 kb36 ki36 r10 t10 kt10 cs10 r1463 r1 t1 kt1 cs1 f1477 f1464 f1465 f1466 f1467 f1468 f41 f43 f44 f1469 f1470 f1471 f1472 f1478 f1473 f1474 f1479 f9 f1481 f1482 f1483 f1484 f1485 f1486 f1487 f18 (Nat.ne_of_gt (Nat.lt_of_lt_of_le f2.lt ge_r10)) hc528 (own_svb X1463 (om 3 rfl)) (own_svb X1463 (om 2 rfl)) (own_svb X1463 (om 1 rfl)) (own_svb X1488 (om 0 rfl))) (ow hw 46 rfl) (ow hw 47 rfl) (ow hw 49 rfl) (ow hw 48 rfl) (ow hw 36 rfl) (ow hw 50 rfl) (by decide) (lenOf pd__28Ljava_2flang_2fString_3b_29Lcom_2fexample_2fratable_2fratable_2fcore_2fPosted_3b rfl) rfl rfl rfl (W := 0) rfl (by decide) (by decide) (by decide) (by decide) (allS (om 4 rfl) (allS (om 3 rfl) (allS (om 2 rfl) (allS (om 0 rfl) all0)))) rfl ?_
          intro T1489 h1489 v1489 X1489 K1489 hQ1489
          obtain ⟨r1489, rfl, ge_r1489, f1490, f1491, f1492, f1493, f1494, f1495, f1496, f1497, f1498, f1499, f1500, f1501, f1502⟩ := hQ1489
          show OGo _ _ _ _ T1489 (mkF m 81 #[.val (.int pa), .val (.int pb), .val (.int pc), .val (.int pd), .val (.ref r1), .val (.ref r10), .val (.ref r19), .val (.int 3), .val (.ref b28), .val (.ref b30), .val (.ref b32), .val (.ref r1463), .val .null, .val .null, .unset, .unset] [(.ref r1489)])
          refine og_astore X1489 83 #[.val (.int pa), .val (.int pb), .val (.int pc), .val (.int pd), .val (.ref r1), .val (.ref r10), .val (.ref r19), .val (.int 3), .val (.ref b28), .val (.ref b30), .val (.ref b32), .val (.ref r1463), .val (.ref r1489), .val .null, .unset, .unset] at_81 rfl rfl rfl ?_
          refine og_iload X1489 85 at_83 rfl rfl ?_
          refine og_iconst X1489 86 (3 : Int32) at_85 rfl rfl ?_
          refine og_icmpN X1489 89 at_86 (XT.ii_lt_f (by decide)) rfl ?_
          refine og_aload X1489 91 at_89 rfl rfl rfl ?_
          refine og_aload X1489 93 at_91 rfl rfl rfl ?_
          have f1503 := f1477.keep K1489
          have f1504 := f1469.keep K1489
          have f1505 := f1470.keep K1489 (ninS (Nat.ne_of_gt (Nat.lt_of_lt_of_le (Nat.lt_of_lt_of_le U32 K36.1) ge_r1463)) (ninS (Nat.ne_of_gt (Nat.lt_of_lt_of_le f42.lt ge_r1463)) (ninS (Nat.ne_of_gt (Nat.lt_of_lt_of_le f40.lt ge_r1463)) (ninS (Nat.ne_of_gt (Nat.lt_of_lt_of_le (Nat.lt_of_lt_of_le f11.lt (Nat.le_trans (Nat.le_trans (Nat.le_trans (Nat.le_trans K19.1 K28.1) K30.1) K32.1) K36.1)) ge_r1463)) nin0))))
          have f1506 := f1471.keep K1489 (ninS (Nat.ne_of_gt (Nat.lt_of_lt_of_le (Nat.lt_of_lt_of_le U32 K36.1) ge_r1463)) (ninS (Nat.ne_of_gt (Nat.lt_of_lt_of_le f42.lt ge_r1463)) (ninS (Nat.ne_of_gt (Nat.lt_of_lt_of_le f40.lt ge_r1463)) (ninS (Nat.ne_of_gt (Nat.lt_of_lt_of_le (Nat.lt_of_lt_of_le f11.lt (Nat.le_trans (Nat.le_trans (Nat.le_trans (Nat.le_trans K19.1 K28.1) K30.1) K32.1) K36.1)) ge_r1463)) nin0))))
          have f1507 := f1472.keep K1489 (ninS (Nat.ne_of_gt (Nat.lt_of_lt_of_le (Nat.lt_of_lt_of_le U32 K36.1) ge_r1463)) (ninS (Nat.ne_of_gt (Nat.lt_of_lt_of_le f42.lt ge_r1463)) (ninS (Nat.ne_of_gt (Nat.lt_of_lt_of_le f40.lt ge_r1463)) (ninS (Nat.ne_of_gt (Nat.lt_of_lt_of_le (Nat.lt_of_lt_of_le f11.lt (Nat.le_trans (Nat.le_trans (Nat.le_trans (Nat.le_trans K19.1 K28.1) K30.1) K32.1) K36.1)) ge_r1463)) nin0))))
          have f1508 := f1478.keep K1489
          have f1509 := f1473.keep K1489 (ninS (Nat.ne_of_lt (Nat.lt_of_lt_of_le (Nat.lt_of_lt_of_le f2.lt (Nat.le_trans (Nat.le_trans (Nat.le_trans K10.1 K19.1) K28.1) K30.1)) G32)) (ninS (Nat.ne_of_lt (Nat.lt_of_lt_of_le (Nat.lt_of_lt_of_le f2.lt (Nat.le_trans (Nat.le_trans (Nat.le_trans (Nat.le_trans K10.1 K19.1) K28.1) K30.1) K32.1)) ge_io36)) (ninS (Nat.ne_of_lt (Nat.lt_of_lt_of_le (Nat.lt_of_lt_of_le f2.lt (Nat.le_trans (Nat.le_trans (Nat.le_trans (Nat.le_trans K10.1 K19.1) K28.1) K30.1) K32.1)) ge_bk36)) (ninS (Nat.ne_of_lt (Nat.lt_of_lt_of_le f2.lt ge_r10)) nin0))))
          have f1510 := f1474.keep K1489 (ninS (Nat.ne_of_lt (Nat.lt_of_lt_of_le (Nat.lt_of_lt_of_le f2.lt (Nat.le_trans (Nat.le_trans (Nat.le_trans K10.1 K19.1) K28.1) K30.1)) G32)) (ninS (Nat.ne_of_lt (Nat.lt_of_lt_of_le (Nat.lt_of_lt_of_le f2.lt (Nat.le_trans (Nat.le_trans (Nat.le_trans (Nat.le_trans K10.1 K19.1) K28.1) K30.1) K32.1)) ge_io36)) (ninS (Nat.ne_of_lt (Nat.lt_of_lt_of_le (Nat.lt_of_lt_of_le f2.lt (Nat.le_trans (Nat.le_trans (Nat.le_trans (Nat.le_trans K10.1 K19.1) K28.1) K30.1) K32.1)) ge_bk36)) (ninS (Nat.ne_of_lt (Nat.lt_of_lt_of_le f2.lt ge_r10)) nin0))))
          have f1511 := f1479.keep K1489 (ninS (Nat.ne_of_lt (Nat.lt_of_lt_of_le (Nat.lt_of_lt_of_le f7.lt (Nat.le_trans (Nat.le_trans (Nat.le_trans K10.1 K19.1) K28.1) K30.1)) G32)) (ninS (Nat.ne_of_lt (Nat.lt_of_lt_of_le (Nat.lt_of_lt_of_le f7.lt (Nat.le_trans (Nat.le_trans (Nat.le_trans (Nat.le_trans K10.1 K19.1) K28.1) K30.1) K32.1)) ge_io36)) (ninS (Nat.ne_of_lt (Nat.lt_of_lt_of_le (Nat.lt_of_lt_of_le f7.lt (Nat.le_trans (Nat.le_trans (Nat.le_trans (Nat.le_trans K10.1 K19.1) K28.1) K30.1) K32.1)) ge_bk36)) (ninS (Nat.ne_of_lt (Nat.lt_of_lt_of_le f7.lt ge_r10)) nin0))))
          have f1512 := f1481.keep K1489
          have f1514 := f1486.keep K1489
          have f1513 := f1487.keep K1489 (ninS (Nat.ne_of_lt (Nat.lt_of_lt_of_le (Nat.lt_of_lt_of_le f16.lt (Nat.le_trans (Nat.le_trans K19.1 K28.1) K30.1)) G32)) (ninS (Nat.ne_of_lt (Nat.lt_of_lt_of_le (Nat.lt_of_lt_of_le f16.lt (Nat.le_trans (Nat.le_trans (Nat.le_trans K19.1 K28.1) K30.1) K32.1)) ge_io36)) (ninS (Nat.ne_of_lt (Nat.lt_of_lt_of_le (Nat.lt_of_lt_of_le f16.lt (Nat.le_trans (Nat.le_trans (Nat.le_trans K19.1 K28.1) K30.1) K32.1)) ge_bk36)) (ninS (ne_exa f1514 f1512 (by decide)) nin0))))
          have f1515 := f125.keep K1463
          have f1516 := f1515.keep K1489
          have f1517 := f129.keep K1463 (ninS (Nat.ne_of_lt (Nat.lt_of_lt_of_le (Nat.lt_of_lt_of_le f20.lt (Nat.le_trans K28.1 K30.1)) G32)) (ninS (Nat.ne_of_lt (Nat.lt_of_lt_of_le (Nat.lt_of_lt_of_le f20.lt (Nat.le_trans (Nat.le_trans K28.1 K30.1) K32.1)) ge_io36)) (ninS (Nat.ne_of_lt (Nat.lt_of_lt_of_le (Nat.lt_of_lt_of_le f20.lt (Nat.le_trans (Nat.le_trans K28.1 K30.1) K32.1)) ge_bk36)) (ninS (Nat.ne_of_gt (Nat.lt_of_lt_of_le (Nat.lt_of_lt_of_le f2.lt K10.1) ge_r19)) nin0))))
          have f1518 := f1517.keep K1489 (ninS (Nat.ne_of_lt (Nat.lt_of_lt_of_le (Nat.lt_of_lt_of_le f20.lt (Nat.le_trans K28.1 K30.1)) G32)) (ninS (Nat.ne_of_lt (Nat.lt_of_lt_of_le (Nat.lt_of_lt_of_le f20.lt (Nat.le_trans (Nat.le_trans K28.1 K30.1) K32.1)) ge_io36)) (ninS (Nat.ne_of_lt (Nat.lt_of_lt_of_le (Nat.lt_of_lt_of_le f20.lt (Nat.le_trans (Nat.le_trans K28.1 K30.1) K32.1)) ge_bk36)) (ninS (Nat.ne_of_gt (Nat.lt_of_lt_of_le f11.lt ge_r19)) nin0))))
          have f1519 := f133.keep K1463 (ninS (Nat.ne_of_lt (Nat.lt_of_lt_of_le (Nat.lt_of_lt_of_le f20.lt (Nat.le_trans K28.1 K30.1)) G32)) (ninS (Nat.ne_of_lt (Nat.lt_of_lt_of_le (Nat.lt_of_lt_of_le f20.lt (Nat.le_trans (Nat.le_trans K28.1 K30.1) K32.1)) ge_io36)) (ninS (Nat.ne_of_lt (Nat.lt_of_lt_of_le (Nat.lt_of_lt_of_le f20.lt (Nat.le_trans (Nat.le_trans K28.1 K30.1) K32.1)) ge_bk36)) (ninS (Nat.ne_of_gt (Nat.lt_of_lt_of_le (Nat.lt_of_lt_of_le f2.lt K10.1) ge_r19)) nin0))))
          have f1520 := f1519.keep K1489 (ninS (Nat.ne_of_lt (Nat.lt_of_lt_of_le (Nat.lt_of_lt_of_le f20.lt (Nat.le_trans K28.1 K30.1)) G32)) (ninS (Nat.ne_of_lt (Nat.lt_of_lt_of_le (Nat.lt_of_lt_of_le f20.lt (Nat.le_trans (Nat.le_trans K28.1 K30.1) K32.1)) ge_io36)) (ninS (Nat.ne_of_lt (Nat.lt_of_lt_of_le (Nat.lt_of_lt_of_le f20.lt (Nat.le_trans (Nat.le_trans K28.1 K30.1) K32.1)) ge_bk36)) (ninS (Nat.ne_of_gt (Nat.lt_of_lt_of_le f11.lt ge_r19)) nin0))))
          have f1521 := f137.keep K1463 (ninS (Nat.ne_of_lt (Nat.lt_of_lt_of_le (Nat.lt_of_lt_of_le f20.lt (Nat.le_trans K28.1 K30.1)) G32)) (ninS (Nat.ne_of_lt (Nat.lt_of_lt_of_le (Nat.lt_of_lt_of_le f20.lt (Nat.le_trans (Nat.le_trans K28.1 K30.1) K32.1)) ge_io36)) (ninS (Nat.ne_of_lt (Nat.lt_of_lt_of_le (Nat.lt_of_lt_of_le f20.lt (Nat.le_trans (Nat.le_trans K28.1 K30.1) K32.1)) ge_bk36)) (ninS (Nat.ne_of_gt (Nat.lt_of_lt_of_le (Nat.lt_of_lt_of_le f2.lt K10.1) ge_r19)) nin0))))
          have f1522 := f1521.keep K1489 (ninS (Nat.ne_of_lt (Nat.lt_of_lt_of_le (Nat.lt_of_lt_of_le f20.lt (Nat.le_trans K28.1 K30.1)) G32)) (ninS (Nat.ne_of_lt (Nat.lt_of_lt_of_le (Nat.lt_of_lt_of_le f20.lt (Nat.le_trans (Nat.le_trans K28.1 K30.1) K32.1)) ge_io36)) (ninS (Nat.ne_of_lt (Nat.lt_of_lt_of_le (Nat.lt_of_lt_of_le f20.lt (Nat.le_trans (Nat.le_trans K28.1 K30.1) K32.1)) ge_bk36)) (ninS (Nat.ne_of_gt (Nat.lt_of_lt_of_le f11.lt ge_r19)) nin0))))
          have f1523 := f141.keep K1463 (ninS (Nat.ne_of_lt (Nat.lt_of_lt_of_le (Nat.lt_of_lt_of_le f20.lt (Nat.le_trans K28.1 K30.1)) G32)) (ninS (Nat.ne_of_lt (Nat.lt_of_lt_of_le (Nat.lt_of_lt_of_le f20.lt (Nat.le_trans (Nat.le_trans K28.1 K30.1) K32.1)) ge_io36)) (ninS (Nat.ne_of_lt (Nat.lt_of_lt_of_le (Nat.lt_of_lt_of_le f20.lt (Nat.le_trans (Nat.le_trans K28.1 K30.1) K32.1)) ge_bk36)) (ninS (Nat.ne_of_gt (Nat.lt_of_lt_of_le (Nat.lt_of_lt_of_le f2.lt K10.1) ge_r19)) nin0))))
          have f1524 := f1523.keep K1489 (ninS (Nat.ne_of_lt (Nat.lt_of_lt_of_le (Nat.lt_of_lt_of_le f20.lt (Nat.le_trans K28.1 K30.1)) G32)) (ninS (Nat.ne_of_lt (Nat.lt_of_lt_of_le (Nat.lt_of_lt_of_le f20.lt (Nat.le_trans (Nat.le_trans K28.1 K30.1) K32.1)) ge_io36)) (ninS (Nat.ne_of_lt (Nat.lt_of_lt_of_le (Nat.lt_of_lt_of_le f20.lt (Nat.le_trans (Nat.le_trans K28.1 K30.1) K32.1)) ge_bk36)) (ninS (Nat.ne_of_gt (Nat.lt_of_lt_of_le f11.lt ge_r19)) nin0))))
          have f1525 := f145.keep K1463
          have f1526 := f1525.keep K1489
          have f1527 := f149.keep K1463 (ninS (Nat.ne_of_lt (Nat.lt_of_lt_of_le (Nat.lt_of_lt_of_le f25.lt (Nat.le_trans K28.1 K30.1)) G32)) (ninS (Nat.ne_of_lt (Nat.lt_of_lt_of_le (Nat.lt_of_lt_of_le f25.lt (Nat.le_trans (Nat.le_trans K28.1 K30.1) K32.1)) ge_io36)) (ninS (Nat.ne_of_lt (Nat.lt_of_lt_of_le (Nat.lt_of_lt_of_le f25.lt (Nat.le_trans (Nat.le_trans K28.1 K30.1) K32.1)) ge_bk36)) (ninS (ne_exa f1526 f1508 (by decide)) nin0))))
          have f1528 := f1527.keep K1489 (ninS (Nat.ne_of_lt (Nat.lt_of_lt_of_le (Nat.lt_of_lt_of_le f25.lt (Nat.le_trans K28.1 K30.1)) G32)) (ninS (Nat.ne_of_lt (Nat.lt_of_lt_of_le (Nat.lt_of_lt_of_le f25.lt (Nat.le_trans (Nat.le_trans K28.1 K30.1) K32.1)) ge_io36)) (ninS (Nat.ne_of_lt (Nat.lt_of_lt_of_le (Nat.lt_of_lt_of_le f25.lt (Nat.le_trans (Nat.le_trans K28.1 K30.1) K32.1)) ge_bk36)) (ninS (ne_exa f1526 f1512 (by decide)) nin0))))
          have X1529 := own_svN X1489 rfl f1516 (Nat.le_trans (own_n0 X10) ge_r19) (Nat.le_trans (Nat.le_trans K1.1 K10.1) ge_r19)
          refine own_virt X1529 96 (a := b32) (argsL := [(.ref r19)]) (rest := []) at_93 f1503 (fun _ hZ => notFace_of_selects (args := #[]) (mvT hZ (ow hw 49 rfl))) (ro_2n l Z n0 h1489 [] a0 hw hWd X1529.old b32 bk36 io36 kb36 ki36 r19 t19 kt19 cs19 r1463 r1 t1 kt1 cs1 r1489 r10 t10 kt10 cs10 f1503 f1490 f1491 f1492 f1493 f1494 f41 f43 f44 f1504 f1505 f1506 f1507 f1508 f1509 f1510 f1511 f9 f1495 f1496 f1497 f1498 f1512 f1499 f1500 f1513 f18 f1516 f1518 f1520 f1522 f1524 f1526 f1528 f27 (Nat.ne_of_gt (Nat.lt_of_lt_of_le (Nat.lt_of_lt_of_le f2.lt K10.1) ge_r19)) (Nat.ne_of_gt (Nat.lt_of_lt_of_le f11.lt ge_r19)) hc948 hc1202 (own_svb X1489 (om 4 rfl)) (own_svb X1489 (om 3 rfl)) (own_svb X1489 (om 2 rfl)) (own_svb X1529 (om 0 rfl))) (ow hw 46 rfl) (ow hw 47 rfl) (ow hw 49 rfl) (ow hw 48 rfl) (ow hw 36 rfl) (ow hw 50 rfl) (by decide) (lenOf pd__28Ljava_2flang_2fString_3b_29Lcom_2fexample_2fratable_2fratable_2fcore_2fPosted_3b rfl) rfl rfl rfl (W := 0) rfl (by decide) (by decide) (by decide) (by decide) (allS (om 5 rfl) (allS (om 4 rfl) (allS (om 3 rfl) (allS (om 0 rfl) all0)))) rfl ?_
          intro T1530 h1530 v1530 X1530 K1530 hQ1530
          obtain ⟨r1530, rfl, ge_r1530, f1531, f1532, f1533, f1534, f1535, f1536, f1537, f1538, f1539, f1540, f1541, f1542⟩ := hQ1530
          show OGo _ _ _ _ T1530 (mkF m 96 #[.val (.int pa), .val (.int pb), .val (.int pc), .val (.int pd), .val (.ref r1), .val (.ref r10), .val (.ref r19), .val (.int 3), .val (.ref b28), .val (.ref b30), .val (.ref b32), .val (.ref r1463), .val (.ref r1489), .val .null, .unset, .unset] [(.ref r1530)])
          refine og_astore X1530 98 #[.val (.int pa), .val (.int pb), .val (.int pc), .val (.int pd), .val (.ref r1), .val (.ref r10), .val (.ref r19), .val (.int 3), .val (.ref b28), .val (.ref b30), .val (.ref b32), .val (.ref r1463), .val (.ref r1489), .val (.ref r1530), .unset, .unset] at_96 rfl rfl rfl ?_
          refine og_iconst X1530 99 (0 : Int32) at_98 rfl rfl ?_
          refine og_istore X1530 101 #[.val (.int pa), .val (.int pb), .val (.int pc), .val (.int pd), .val (.ref r1), .val (.ref r10), .val (.ref r19), .val (.int 3), .val (.ref b28), .val (.ref b30), .val (.ref b32), .val (.ref r1463), .val (.ref r1489), .val (.ref r1530), .val (.int 0), .unset] at_99 rfl rfl ?_
          refine og_iload X1530 103 at_101 rfl rfl ?_
          refine og_iconst X1530 104 (1 : Int32) at_103 rfl rfl ?_
          refine og_icmpN X1530 107 at_104 (XT.ii_lt_f (by decide)) rfl ?_
          refine og_aload X1530 109 at_107 rfl rfl rfl ?_
          refine og_iload X1530 111 at_109 rfl rfl ?_
          refine og_aload X1530 113 at_111 rfl rfl rfl ?_
          have f1543 := f152.keep K1463 (ninS (Nat.ne_of_lt (Nat.lt_of_lt_of_le (Nat.lt_of_lt_of_le U28 K30.1) G32)) (ninS (Nat.ne_of_lt (Nat.lt_of_lt_of_le (Nat.lt_of_lt_of_le U28 (Nat.le_trans K30.1 K32.1)) ge_io36)) (ninS (Nat.ne_of_lt (Nat.lt_of_lt_of_le (Nat.lt_of_lt_of_le U28 (Nat.le_trans K30.1 K32.1)) ge_bk36)) (ninS (Nat.ne_of_gt (Nat.lt_of_lt_of_le (Nat.lt_of_lt_of_le f2.lt (Nat.le_trans K10.1 K19.1)) G28)) nin0))))
          have f1544 := f1543.keep K1489 (ninS (Nat.ne_of_lt (Nat.lt_of_lt_of_le (Nat.lt_of_lt_of_le U28 K30.1) G32)) (ninS (Nat.ne_of_lt (Nat.lt_of_lt_of_le (Nat.lt_of_lt_of_le U28 (Nat.le_trans K30.1 K32.1)) ge_io36)) (ninS (Nat.ne_of_lt (Nat.lt_of_lt_of_le (Nat.lt_of_lt_of_le U28 (Nat.le_trans K30.1 K32.1)) ge_bk36)) (ninS (Nat.ne_of_gt (Nat.lt_of_lt_of_le (Nat.lt_of_lt_of_le f11.lt K19.1) G28)) nin0))))
          have f1545 := f1544.keep K1530 (ninS (Nat.ne_of_lt (Nat.lt_of_lt_of_le (Nat.lt_of_lt_of_le U28 K30.1) G32)) (ninS (Nat.ne_of_lt (Nat.lt_of_lt_of_le (Nat.lt_of_lt_of_le U28 (Nat.le_trans K30.1 K32.1)) ge_io36)) (ninS (Nat.ne_of_lt (Nat.lt_of_lt_of_le (Nat.lt_of_lt_of_le U28 (Nat.le_trans K30.1 K32.1)) ge_bk36)) (ninS (Nat.ne_of_gt (Nat.lt_of_lt_of_le f20.lt G28)) nin0))))
          have f1547 := f1504.keep K1530
          refine own_stR X1530 114 at_113 f1545 rfl rfl (own_sto f1545 O28 (Ins.self f1547)) (by decide) (by decide) (i := 0) (by decide) (Nat.le_of_ble_eq_true rfl) (om 7 rfl) rfl ?_
          intro T1546 h1546 X1546 W1546 K1546 A1546
          have f1548 : Arv Z h1546 b28 kb28 (.object "com/example/ratable/ratable/core/Posted") (3 : Int32) [(.ref r1463), .null, .null] .null := A1546
          refine og_aload X1546 116 at_114 rfl rfl rfl ?_
          refine og_iload X1546 118 at_116 rfl rfl ?_
          refine og_aload X1546 120 at_118 rfl rfl rfl ?_
          have f1549 := f154.keep K1463 (ninS (Nat.ne_of_lt (Nat.lt_of_lt_of_le U30 G32)) (ninS (Nat.ne_of_lt (Nat.lt_of_lt_of_le (Nat.lt_of_lt_of_le U30 K32.1) ge_io36)) (ninS (Nat.ne_of_lt (Nat.lt_of_lt_of_le (Nat.lt_of_lt_of_le U30 K32.1) ge_bk36)) (ninS (Nat.ne_of_gt (Nat.lt_of_lt_of_le (Nat.lt_of_lt_of_le f2.lt (Nat.le_trans (Nat.le_trans K10.1 K19.1) K28.1)) G30)) nin0))))
          have f1550 := f1549.keep K1489 (ninS (Nat.ne_of_lt (Nat.lt_of_lt_of_le U30 G32)) (ninS (Nat.ne_of_lt (Nat.lt_of_lt_of_le (Nat.lt_of_lt_of_le U30 K32.1) ge_io36)) (ninS (Nat.ne_of_lt (Nat.lt_of_lt_of_le (Nat.lt_of_lt_of_le U30 K32.1) ge_bk36)) (ninS (Nat.ne_of_gt (Nat.lt_of_lt_of_le (Nat.lt_of_lt_of_le f11.lt (Nat.le_trans K19.1 K28.1)) G30)) nin0))))
          have f1551 := f1550.keep K1530 (ninS (Nat.ne_of_lt (Nat.lt_of_lt_of_le U30 G32)) (ninS (Nat.ne_of_lt (Nat.lt_of_lt_of_le (Nat.lt_of_lt_of_le U30 K32.1) ge_io36)) (ninS (Nat.ne_of_lt (Nat.lt_of_lt_of_le (Nat.lt_of_lt_of_le U30 K32.1) ge_bk36)) (ninS (Nat.ne_of_gt (Nat.lt_of_lt_of_le (Nat.lt_of_lt_of_le f20.lt K28.1) G30)) nin0))))
          have f1552 := f1551.keep K1546 (ninS (Nat.ne_of_gt (Nat.lt_of_lt_of_le U28 G30)) nin0)
          have f1554 := f1508.keep K1530
          have f1555 := f1554.keep K1546
          refine own_stR X1546 121 at_120 f1552 rfl rfl (own_sto f1552 O30 (Ins.self f1555)) (by decide) (by decide) (i := 0) (by decide) (Nat.le_of_ble_eq_true rfl) (om 6 rfl) rfl ?_
          intro T1553 h1553 X1553 W1553 K1553 A1553
          have f1556 : Arv Z h1553 b30 kb30 (.object "java/lang/String") (3 : Int32) [(.ref r1), .null, .null] .null := A1553
          refine og_iinc X1553 124 #[.val (.int pa), .val (.int pb), .val (.int pc), .val (.int pd), .val (.ref r1), .val (.ref r10), .val (.ref r19), .val (.int 3), .val (.ref b28), .val (.ref b30), .val (.ref b32), .val (.ref r1463), .val (.ref r1489), .val (.ref r1530), .val (.int 1), .unset] at_121 rfl rfl rfl ?_
          refine og_iload X1553 126 at_124 rfl rfl ?_
          refine og_iconst X1553 127 (2 : Int32) at_126 rfl rfl ?_
          refine og_icmpN X1553 130 at_127 (XT.ii_lt_f (by decide)) rfl ?_
          refine og_aload X1553 132 at_130 rfl rfl rfl ?_
          refine og_aload X1553 134 at_132 rfl rfl rfl ?_
          have f1557 := f1512.keep K1530
          have f1558 := f1557.keep K1546
          have f1559 := f1558.keep K1553
          have f1560 := f1499.keep K1530 (ninS (Nat.ne_of_lt (Nat.lt_of_lt_of_le (Nat.lt_of_lt_of_le f11.lt (Nat.le_trans (Nat.le_trans K19.1 K28.1) K30.1)) G32)) (ninS (Nat.ne_of_lt (Nat.lt_of_lt_of_le (Nat.lt_of_lt_of_le f11.lt (Nat.le_trans (Nat.le_trans (Nat.le_trans K19.1 K28.1) K30.1) K32.1)) ge_io36)) (ninS (Nat.ne_of_lt (Nat.lt_of_lt_of_le (Nat.lt_of_lt_of_le f11.lt (Nat.le_trans (Nat.le_trans (Nat.le_trans K19.1 K28.1) K30.1) K32.1)) ge_bk36)) (ninS (Nat.ne_of_lt (Nat.lt_of_lt_of_le f11.lt ge_r19)) nin0))))
          have f1561 := f1560.keep K1546 (ninS (Nat.ne_of_lt (Nat.lt_of_lt_of_le (Nat.lt_of_lt_of_le f11.lt K19.1) G28)) nin0)
          have f1562 := f1561.keep K1553 (ninS (Nat.ne_of_lt (Nat.lt_of_lt_of_le (Nat.lt_of_lt_of_le f11.lt (Nat.le_trans K19.1 K28.1)) G30)) nin0)
          have f1563 := f1500.keep K1530 (ninS (Nat.ne_of_lt (Nat.lt_of_lt_of_le (Nat.lt_of_lt_of_le f11.lt (Nat.le_trans (Nat.le_trans K19.1 K28.1) K30.1)) G32)) (ninS (Nat.ne_of_lt (Nat.lt_of_lt_of_le (Nat.lt_of_lt_of_le f11.lt (Nat.le_trans (Nat.le_trans (Nat.le_trans K19.1 K28.1) K30.1) K32.1)) ge_io36)) (ninS (Nat.ne_of_lt (Nat.lt_of_lt_of_le (Nat.lt_of_lt_of_le f11.lt (Nat.le_trans (Nat.le_trans (Nat.le_trans K19.1 K28.1) K30.1) K32.1)) ge_bk36)) (ninS (Nat.ne_of_lt (Nat.lt_of_lt_of_le f11.lt ge_r19)) nin0))))
          have f1564 := f1563.keep K1546 (ninS (Nat.ne_of_lt (Nat.lt_of_lt_of_le (Nat.lt_of_lt_of_le f11.lt K19.1) G28)) nin0)
          have f1565 := f1564.keep K1553 (ninS (Nat.ne_of_lt (Nat.lt_of_lt_of_le (Nat.lt_of_lt_of_le f11.lt (Nat.le_trans K19.1 K28.1)) G30)) nin0)
          have f1566 := f1513.keep K1530 (ninS (Nat.ne_of_lt (Nat.lt_of_lt_of_le (Nat.lt_of_lt_of_le f16.lt (Nat.le_trans (Nat.le_trans K19.1 K28.1) K30.1)) G32)) (ninS (Nat.ne_of_lt (Nat.lt_of_lt_of_le (Nat.lt_of_lt_of_le f16.lt (Nat.le_trans (Nat.le_trans (Nat.le_trans K19.1 K28.1) K30.1) K32.1)) ge_io36)) (ninS (Nat.ne_of_lt (Nat.lt_of_lt_of_le (Nat.lt_of_lt_of_le f16.lt (Nat.le_trans (Nat.le_trans (Nat.le_trans K19.1 K28.1) K30.1) K32.1)) ge_bk36)) (ninS (Nat.ne_of_lt (Nat.lt_of_lt_of_le f16.lt ge_r19)) nin0))))
          have f1567 := f1566.keep K1546 (ninS (Nat.ne_of_lt (Nat.lt_of_lt_of_le (Nat.lt_of_lt_of_le f16.lt K19.1) G28)) nin0)
          have f1568 := f1567.keep K1553 (ninS (Nat.ne_of_lt (Nat.lt_of_lt_of_le (Nat.lt_of_lt_of_le f16.lt (Nat.le_trans K19.1 K28.1)) G30)) nin0)
          have f1569 := own_rawS f1559 f1562 f1565 f1568 f18
          have f1570 := f1555.keep K1553
          have f1571 := f1509.keep K1530 (ninS (Nat.ne_of_lt (Nat.lt_of_lt_of_le (Nat.lt_of_lt_of_le f2.lt (Nat.le_trans (Nat.le_trans (Nat.le_trans K10.1 K19.1) K28.1) K30.1)) G32)) (ninS (Nat.ne_of_lt (Nat.lt_of_lt_of_le (Nat.lt_of_lt_of_le f2.lt (Nat.le_trans (Nat.le_trans (Nat.le_trans (Nat.le_trans K10.1 K19.1) K28.1) K30.1) K32.1)) ge_io36)) (ninS (Nat.ne_of_lt (Nat.lt_of_lt_of_le (Nat.lt_of_lt_of_le f2.lt (Nat.le_trans (Nat.le_trans (Nat.le_trans (Nat.le_trans K10.1 K19.1) K28.1) K30.1) K32.1)) ge_bk36)) (ninS (Nat.ne_of_lt (Nat.lt_of_lt_of_le (Nat.lt_of_lt_of_le f2.lt K10.1) ge_r19)) nin0))))
          have f1572 := f1571.keep K1546 (ninS (Nat.ne_of_lt (Nat.lt_of_lt_of_le (Nat.lt_of_lt_of_le f2.lt (Nat.le_trans K10.1 K19.1)) G28)) nin0)
          have f1573 := f1572.keep K1553 (ninS (Nat.ne_of_lt (Nat.lt_of_lt_of_le (Nat.lt_of_lt_of_le f2.lt (Nat.le_trans (Nat.le_trans K10.1 K19.1) K28.1)) G30)) nin0)
          have f1574 := f1510.keep K1530 (ninS (Nat.ne_of_lt (Nat.lt_of_lt_of_le (Nat.lt_of_lt_of_le f2.lt (Nat.le_trans (Nat.le_trans (Nat.le_trans K10.1 K19.1) K28.1) K30.1)) G32)) (ninS (Nat.ne_of_lt (Nat.lt_of_lt_of_le (Nat.lt_of_lt_of_le f2.lt (Nat.le_trans (Nat.le_trans (Nat.le_trans (Nat.le_trans K10.1 K19.1) K28.1) K30.1) K32.1)) ge_io36)) (ninS (Nat.ne_of_lt (Nat.lt_of_lt_of_le (Nat.lt_of_lt_of_le f2.lt (Nat.le_trans (Nat.le_trans (Nat.le_trans (Nat.le_trans K10.1 K19.1) K28.1) K30.1) K32.1)) ge_bk36)) (ninS (Nat.ne_of_lt (Nat.lt_of_lt_of_le (Nat.lt_of_lt_of_le f2.lt K10.1) ge_r19)) nin0))))
          have f1575 := f1574.keep K1546 (ninS (Nat.ne_of_lt (Nat.lt_of_lt_of_le (Nat.lt_of_lt_of_le f2.lt (Nat.le_trans K10.1 K19.1)) G28)) nin0)
          have f1576 := f1575.keep K1553 (ninS (Nat.ne_of_lt (Nat.lt_of_lt_of_le (Nat.lt_of_lt_of_le f2.lt (Nat.le_trans (Nat.le_trans K10.1 K19.1) K28.1)) G30)) nin0)
          have f1577 := f1511.keep K1530 (ninS (Nat.ne_of_lt (Nat.lt_of_lt_of_le (Nat.lt_of_lt_of_le f7.lt (Nat.le_trans (Nat.le_trans (Nat.le_trans K10.1 K19.1) K28.1) K30.1)) G32)) (ninS (Nat.ne_of_lt (Nat.lt_of_lt_of_le (Nat.lt_of_lt_of_le f7.lt (Nat.le_trans (Nat.le_trans (Nat.le_trans (Nat.le_trans K10.1 K19.1) K28.1) K30.1) K32.1)) ge_io36)) (ninS (Nat.ne_of_lt (Nat.lt_of_lt_of_le (Nat.lt_of_lt_of_le f7.lt (Nat.le_trans (Nat.le_trans (Nat.le_trans (Nat.le_trans K10.1 K19.1) K28.1) K30.1) K32.1)) ge_bk36)) (ninS (Nat.ne_of_lt (Nat.lt_of_lt_of_le (Nat.lt_of_lt_of_le f7.lt K10.1) ge_r19)) nin0))))
          have f1578 := f1577.keep K1546 (ninS (Nat.ne_of_lt (Nat.lt_of_lt_of_le (Nat.lt_of_lt_of_le f7.lt (Nat.le_trans K10.1 K19.1)) G28)) nin0)
          have f1579 := f1578.keep K1553 (ninS (Nat.ne_of_lt (Nat.lt_of_lt_of_le (Nat.lt_of_lt_of_le f7.lt (Nat.le_trans (Nat.le_trans K10.1 K19.1) K28.1)) G30)) nin0)
          have f1580 := own_rawS f1570 f1573 f1576 f1579 f9
          refine own_strEq X1553 137 at_134 f1569 f1580 (own_wE hw) (ow hw 14 rfl) hWd.2.1 hWd.2.2 (ow hw 144 rfl) (ow hw 145 rfl) (ow hw 147 rfl) (ow hw 146 rfl) rfl (W := 0) rfl (by decide) (by decide) (by decide) (by decide) rfl ?_
          intro T1581 X1582
          refine og_ifN X1582 140 at_137 (XT.i0_ne_f (own_eqb0.mpr (fun q => hc528 q.symm))) rfl ?_
          refine og_aload X1582 142 at_140 rfl rfl rfl ?_
          refine og_iload X1582 144 at_142 rfl rfl ?_
          refine og_aload X1582 146 at_144 rfl rfl rfl ?_
          have f1583 := f1548.keep K1553 (ninS (Nat.ne_of_lt (Nat.lt_of_lt_of_le U28 G30)) nin0)
          have f1585 := f1495.keep K1530
          have f1586 := f1585.keep K1546
          have f1587 := f1586.keep K1553
          refine own_stR X1582 147 at_146 f1583 rfl rfl (own_sto f1583 O28 (Ins.self f1587)) (by decide) (by decide) (i := 1) (by decide) (Nat.le_of_ble_eq_true rfl) (om 7 rfl) rfl ?_
          intro T1584 h1584 X1584 W1584 K1584 A1584
          have f1588 : Arv Z h1584 b28 kb28 (.object "com/example/ratable/ratable/core/Posted") (3 : Int32) [(.ref r1463), (.ref r1489), .null] .null := A1584
          refine og_aload X1584 149 at_147 rfl rfl rfl ?_
          refine og_iload X1584 151 at_149 rfl rfl ?_
          refine og_aload X1584 153 at_151 rfl rfl rfl ?_
          have f1589 := f1556.keep K1584 (ninS (Nat.ne_of_gt (Nat.lt_of_lt_of_le U28 G30)) nin0)
          have f1591 := f1559.keep K1584
          refine own_stR X1584 154 at_153 f1589 rfl rfl (own_sto f1589 O30 (Ins.self f1591)) (by decide) (by decide) (i := 1) (by decide) (Nat.le_of_ble_eq_true rfl) (om 6 rfl) rfl ?_
          intro T1590 h1590 X1590 W1590 K1590 A1590
          have f1592 : Arv Z h1590 b30 kb30 (.object "java/lang/String") (3 : Int32) [(.ref r1), (.ref r10), .null] .null := A1590
          refine og_iinc X1590 157 #[.val (.int pa), .val (.int pb), .val (.int pc), .val (.int pd), .val (.ref r1), .val (.ref r10), .val (.ref r19), .val (.int 3), .val (.ref b28), .val (.ref b30), .val (.ref b32), .val (.ref r1463), .val (.ref r1489), .val (.ref r1530), .val (.int 2), .unset] at_154 rfl rfl rfl ?_
          refine og_iload X1590 159 at_157 rfl rfl ?_
          refine og_iconst X1590 160 (3 : Int32) at_159 rfl rfl ?_
          refine og_icmpN X1590 163 at_160 (XT.ii_lt_f (by decide)) rfl ?_
          refine og_aload X1590 165 at_163 rfl rfl rfl ?_
          refine og_aload X1590 167 at_165 rfl rfl rfl ?_
          have f1593 := f1516.keep K1530
          have f1594 := f1593.keep K1546
          have f1595 := f1594.keep K1553
          have f1596 := f1595.keep K1584
          have f1597 := f1596.keep K1590
          have f1598 := f1539.keep K1546 (ninS (Nat.ne_of_lt (Nat.lt_of_lt_of_le f20.lt G28)) nin0)
          have f1599 := f1598.keep K1553 (ninS (Nat.ne_of_lt (Nat.lt_of_lt_of_le (Nat.lt_of_lt_of_le f20.lt K28.1) G30)) nin0)
          have f1600 := f1599.keep K1584 (ninS (Nat.ne_of_lt (Nat.lt_of_lt_of_le f20.lt G28)) nin0)
          have f1601 := f1600.keep K1590 (ninS (Nat.ne_of_lt (Nat.lt_of_lt_of_le (Nat.lt_of_lt_of_le f20.lt K28.1) G30)) nin0)
          have f1602 := f1540.keep K1546 (ninS (Nat.ne_of_lt (Nat.lt_of_lt_of_le f20.lt G28)) nin0)
          have f1603 := f1602.keep K1553 (ninS (Nat.ne_of_lt (Nat.lt_of_lt_of_le (Nat.lt_of_lt_of_le f20.lt K28.1) G30)) nin0)
          have f1604 := f1603.keep K1584 (ninS (Nat.ne_of_lt (Nat.lt_of_lt_of_le f20.lt G28)) nin0)
          have f1605 := f1604.keep K1590 (ninS (Nat.ne_of_lt (Nat.lt_of_lt_of_le (Nat.lt_of_lt_of_le f20.lt K28.1) G30)) nin0)
          have f1607 := f1526.keep K1530
          have f1608 := f1607.keep K1546
          have f1609 := f1608.keep K1553
          have f1610 := f1609.keep K1584
          have f1611 := f1610.keep K1590
          have f1606 := f1528.keep K1530 (ninS (Nat.ne_of_lt (Nat.lt_of_lt_of_le (Nat.lt_of_lt_of_le f25.lt (Nat.le_trans K28.1 K30.1)) G32)) (ninS (Nat.ne_of_lt (Nat.lt_of_lt_of_le (Nat.lt_of_lt_of_le f25.lt (Nat.le_trans (Nat.le_trans K28.1 K30.1) K32.1)) ge_io36)) (ninS (Nat.ne_of_lt (Nat.lt_of_lt_of_le (Nat.lt_of_lt_of_le f25.lt (Nat.le_trans (Nat.le_trans K28.1 K30.1) K32.1)) ge_bk36)) (ninS (ne_exa f1611 f1597 (by decide)) nin0))))
          have f1612 := f1606.keep K1546 (ninS (Nat.ne_of_lt (Nat.lt_of_lt_of_le f25.lt G28)) nin0)
          have f1613 := f1612.keep K1553 (ninS (Nat.ne_of_lt (Nat.lt_of_lt_of_le (Nat.lt_of_lt_of_le f25.lt K28.1) G30)) nin0)
          have f1614 := f1613.keep K1584 (ninS (Nat.ne_of_lt (Nat.lt_of_lt_of_le f25.lt G28)) nin0)
          have f1615 := f1614.keep K1590 (ninS (Nat.ne_of_lt (Nat.lt_of_lt_of_le (Nat.lt_of_lt_of_le f25.lt K28.1) G30)) nin0)
          have f1616 := own_rawS f1597 f1601 f1605 f1615 f27
          have f1617 := f1570.keep K1584
          have f1618 := f1617.keep K1590
          have f1619 := f1573.keep K1584 (ninS (Nat.ne_of_lt (Nat.lt_of_lt_of_le (Nat.lt_of_lt_of_le f2.lt (Nat.le_trans K10.1 K19.1)) G28)) nin0)
          have f1620 := f1619.keep K1590 (ninS (Nat.ne_of_lt (Nat.lt_of_lt_of_le (Nat.lt_of_lt_of_le f2.lt (Nat.le_trans (Nat.le_trans K10.1 K19.1) K28.1)) G30)) nin0)
          have f1621 := f1576.keep K1584 (ninS (Nat.ne_of_lt (Nat.lt_of_lt_of_le (Nat.lt_of_lt_of_le f2.lt (Nat.le_trans K10.1 K19.1)) G28)) nin0)
          have f1622 := f1621.keep K1590 (ninS (Nat.ne_of_lt (Nat.lt_of_lt_of_le (Nat.lt_of_lt_of_le f2.lt (Nat.le_trans (Nat.le_trans K10.1 K19.1) K28.1)) G30)) nin0)
          have f1623 := f1579.keep K1584 (ninS (Nat.ne_of_lt (Nat.lt_of_lt_of_le (Nat.lt_of_lt_of_le f7.lt (Nat.le_trans K10.1 K19.1)) G28)) nin0)
          have f1624 := f1623.keep K1590 (ninS (Nat.ne_of_lt (Nat.lt_of_lt_of_le (Nat.lt_of_lt_of_le f7.lt (Nat.le_trans (Nat.le_trans K10.1 K19.1) K28.1)) G30)) nin0)
          have f1625 := own_rawS f1618 f1620 f1622 f1624 f9
          refine own_strEq X1590 170 at_167 f1616 f1625 (own_wE hw) (ow hw 14 rfl) hWd.2.1 hWd.2.2 (ow hw 144 rfl) (ow hw 145 rfl) (ow hw 147 rfl) (ow hw 146 rfl) rfl (W := 0) rfl (by decide) (by decide) (by decide) (by decide) rfl ?_
          intro T1626 X1627
          refine og_ifN X1627 173 at_170 (XT.i0_ne_f (own_eqb0.mpr (fun q => hc948 q.symm))) rfl ?_
          refine og_aload X1627 175 at_173 rfl rfl rfl ?_
          refine og_aload X1627 177 at_175 rfl rfl rfl ?_
          have f1628 := own_rawS f1597 f1601 f1605 f1615 f27
          have f1629 := f1591.keep K1590
          have f1630 := f1562.keep K1584 (ninS (Nat.ne_of_lt (Nat.lt_of_lt_of_le (Nat.lt_of_lt_of_le f11.lt K19.1) G28)) nin0)
          have f1631 := f1630.keep K1590 (ninS (Nat.ne_of_lt (Nat.lt_of_lt_of_le (Nat.lt_of_lt_of_le f11.lt (Nat.le_trans K19.1 K28.1)) G30)) nin0)
          have f1632 := f1565.keep K1584 (ninS (Nat.ne_of_lt (Nat.lt_of_lt_of_le (Nat.lt_of_lt_of_le f11.lt K19.1) G28)) nin0)
          have f1633 := f1632.keep K1590 (ninS (Nat.ne_of_lt (Nat.lt_of_lt_of_le (Nat.lt_of_lt_of_le f11.lt (Nat.le_trans K19.1 K28.1)) G30)) nin0)
          have f1634 := f1568.keep K1584 (ninS (Nat.ne_of_lt (Nat.lt_of_lt_of_le (Nat.lt_of_lt_of_le f16.lt K19.1) G28)) nin0)
          have f1635 := f1634.keep K1590 (ninS (Nat.ne_of_lt (Nat.lt_of_lt_of_le (Nat.lt_of_lt_of_le f16.lt (Nat.le_trans K19.1 K28.1)) G30)) nin0)
          have f1636 := own_rawS f1629 f1631 f1633 f1635 f18
          refine own_strEq X1627 180 at_177 f1628 f1636 (own_wE hw) (ow hw 14 rfl) hWd.2.1 hWd.2.2 (ow hw 144 rfl) (ow hw 145 rfl) (ow hw 147 rfl) (ow hw 146 rfl) rfl (W := 0) rfl (by decide) (by decide) (by decide) (by decide) rfl ?_
          intro T1637 X1638
          refine og_ifN X1638 183 at_180 (XT.i0_ne_f (own_eqb0.mpr (fun q => hc1202 q.symm))) rfl ?_
          refine og_aload X1638 185 at_183 rfl rfl rfl ?_
          refine og_iload X1638 187 at_185 rfl rfl ?_
          refine og_aload X1638 189 at_187 rfl rfl rfl ?_
          have f1639 := f1588.keep K1590 (ninS (Nat.ne_of_lt (Nat.lt_of_lt_of_le U28 G30)) nin0)
          have f1641 := f1536.keep K1546
          have f1642 := f1641.keep K1553
          have f1643 := f1642.keep K1584
          have f1644 := f1643.keep K1590
          refine own_stR X1638 190 at_189 f1639 rfl rfl (own_sto f1639 O28 (Ins.self f1644)) (by decide) (by decide) (i := 2) (by decide) (Nat.le_of_ble_eq_true rfl) (om 7 rfl) rfl ?_
          intro T1640 h1640 X1640 W1640 K1640 A1640
          have f1645 : Arv Z h1640 b28 kb28 (.object "com/example/ratable/ratable/core/Posted") (3 : Int32) [(.ref r1463), (.ref r1489), (.ref r1530)] .null := A1640
          refine og_aload X1640 192 at_190 rfl rfl rfl ?_
          refine og_iload X1640 194 at_192 rfl rfl ?_
          refine og_aload X1640 196 at_194 rfl rfl rfl ?_
          have f1646 := f1592.keep K1640 (ninS (Nat.ne_of_gt (Nat.lt_of_lt_of_le U28 G30)) nin0)
          have f1648 := f1597.keep K1640
          refine own_stR X1640 197 at_196 f1646 rfl rfl (own_sto f1646 O30 (Ins.self f1648)) (by decide) (by decide) (i := 2) (by decide) (Nat.le_of_ble_eq_true rfl) (om 6 rfl) rfl ?_
          intro T1647 h1647 X1647 W1647 K1647 A1647
          have f1649 : Arv Z h1647 b30 kb30 (.object "java/lang/String") (3 : Int32) [(.ref r1), (.ref r10), (.ref r19)] .null := A1647
          refine og_iinc X1647 200 #[.val (.int pa), .val (.int pb), .val (.int pc), .val (.int pd), .val (.ref r1), .val (.ref r10), .val (.ref r19), .val (.int 3), .val (.ref b28), .val (.ref b30), .val (.ref b32), .val (.ref r1463), .val (.ref r1489), .val (.ref r1530), .val (.int 3), .unset] at_197 rfl rfl rfl ?_
          refine og_aload X1647 202 at_200 rfl rfl rfl ?_
          have f1650 := f1503.keep K1530
          have f1651 := f1650.keep K1546
          have f1652 := f1651.keep K1553
          have f1653 := f1652.keep K1584
          have f1654 := f1653.keep K1590
          have f1655 := f1654.keep K1640
          have f1656 := f1655.keep K1647
          have f1657 := f1533.keep K1546 (ninS (Nat.ne_of_gt (Nat.lt_of_lt_of_le (Nat.lt_of_lt_of_le U28 K30.1) G32)) nin0)
          have f1658 := f1657.keep K1553 (ninS (Nat.ne_of_gt (Nat.lt_of_lt_of_le U30 G32)) nin0)
          have f1659 := f1658.keep K1584 (ninS (Nat.ne_of_gt (Nat.lt_of_lt_of_le (Nat.lt_of_lt_of_le U28 K30.1) G32)) nin0)
          have f1660 := f1659.keep K1590 (ninS (Nat.ne_of_gt (Nat.lt_of_lt_of_le U30 G32)) nin0)
          have f1661 := f1660.keep K1640 (ninS (Nat.ne_of_gt (Nat.lt_of_lt_of_le (Nat.lt_of_lt_of_le U28 K30.1) G32)) nin0)
          have f1662 := f1661.keep K1647 (ninS (Nat.ne_of_gt (Nat.lt_of_lt_of_le U30 G32)) nin0)
          refine own_virt X1647 205 (a := b32) (argsL := []) (rest := []) at_202 f1656 (fun _ hZ => notFace_of_selects (args := #[]) (mvT hZ (ow hw 125 rfl))) (rm18 l Z n0 h1647 [] a0 hw hWd X1647.old b32 (3 : Int32) f1662 ) (ow hw 122 rfl) (ow hw 123 rfl) (ow hw 125 rfl) (ow hw 124 rfl) (ow hw 36 rfl) (ow hw 126 rfl) (by decide) (lenOf pd__28_29I rfl) rfl rfl rfl (W := 0) rfl (by decide) (by decide) (by decide) (by decide) all0 rfl ?_
          intro T1663 h1663 v1663 X1663 K1663 hQ1663
          obtain rfl := hQ1663
          show OGo _ _ _ _ T1663 (mkF m 205 #[.val (.int pa), .val (.int pb), .val (.int pc), .val (.int pd), .val (.ref r1), .val (.ref r10), .val (.ref r19), .val (.int 3), .val (.ref b28), .val (.ref b30), .val (.ref b32), .val (.ref r1463), .val (.ref r1489), .val (.ref r1530), .val (.int 3), .unset] [(.int 3)])
          refine og_iload X1663 207 at_205 rfl rfl ?_
          refine og_icmpY X1663 212 at_207 (XT.ii_eq_t (by decide)) (by decide) (by decide) ?_
          refine og_iconst X1663 213 (1 : Int32) at_212 rfl rfl ?_
          refine og_istore X1663 215 #[.val (.int pa), .val (.int pb), .val (.int pc), .val (.int pd), .val (.ref r1), .val (.ref r10), .val (.ref r19), .val (.int 3), .val (.ref b28), .val (.ref b30), .val (.ref b32), .val (.ref r1463), .val (.ref r1489), .val (.ref r1530), .val (.int 3), .val (.int 1)] at_213 rfl rfl ?_
          refine og_iload X1663 217 at_215 rfl rfl ?_
          refine og_iconst X1663 218 (1 : Int32) at_217 rfl rfl ?_
          refine og_icmpN X1663 221 at_218 (XT.ii_lt_f (by decide)) rfl ?_
          refine og_iload X1663 223 at_221 rfl rfl ?_
          refine og_ifN X1663 226 at_223 (XT.i0_eq_f (by decide)) rfl ?_
          refine og_aload X1663 228 at_226 rfl rfl rfl ?_
          refine og_iconst X1663 229 (0 : Int32) at_228 rfl rfl ?_
          have f1664 := f1656.keep K1663
          have f1665 := f1662.keep K1663 nin0
          have f1666 := f1532.keep K1546 (ninS (Nat.ne_of_gt (Nat.lt_of_lt_of_le (Nat.lt_of_lt_of_le U28 K30.1) G32)) nin0)
          have f1667 := f1666.keep K1553 (ninS (Nat.ne_of_gt (Nat.lt_of_lt_of_le U30 G32)) nin0)
          have f1668 := f1667.keep K1584 (ninS (Nat.ne_of_gt (Nat.lt_of_lt_of_le (Nat.lt_of_lt_of_le U28 K30.1) G32)) nin0)
          have f1669 := f1668.keep K1590 (ninS (Nat.ne_of_gt (Nat.lt_of_lt_of_le U30 G32)) nin0)
          have f1670 := f1669.keep K1640 (ninS (Nat.ne_of_gt (Nat.lt_of_lt_of_le (Nat.lt_of_lt_of_le U28 K30.1) G32)) nin0)
          have f1671 := f1670.keep K1647 (ninS (Nat.ne_of_gt (Nat.lt_of_lt_of_le U30 G32)) nin0)
          have f1672 := f1671.keep K1663 nin0
          have f1673 := f1535.keep K1546 (ninS (Nat.ne_of_gt (Nat.lt_of_lt_of_le (Nat.lt_of_lt_of_le U28 (Nat.le_trans K30.1 K32.1)) ge_io36)) nin0)
          have f1674 := f1673.keep K1553 (ninS (Nat.ne_of_gt (Nat.lt_of_lt_of_le (Nat.lt_of_lt_of_le U30 K32.1) ge_io36)) nin0)
          have f1675 := f1674.keep K1584 (ninS (Nat.ne_of_gt (Nat.lt_of_lt_of_le (Nat.lt_of_lt_of_le U28 (Nat.le_trans K30.1 K32.1)) ge_io36)) nin0)
          have f1676 := f1675.keep K1590 (ninS (Nat.ne_of_gt (Nat.lt_of_lt_of_le (Nat.lt_of_lt_of_le U30 K32.1) ge_io36)) nin0)
          have f1677 := f1676.keep K1640 (ninS (Nat.ne_of_gt (Nat.lt_of_lt_of_le (Nat.lt_of_lt_of_le U28 (Nat.le_trans K30.1 K32.1)) ge_io36)) nin0)
          have f1678 := f1677.keep K1647 (ninS (Nat.ne_of_gt (Nat.lt_of_lt_of_le (Nat.lt_of_lt_of_le U30 K32.1) ge_io36)) nin0)
          have f1679 := f1678.keep K1663 nin0
          refine own_virt X1663 232 (a := b32) (argsL := [(.int 0)]) (rest := []) at_229 f1664 (fun _ hZ => notFace_of_selects (args := #[]) (mvT hZ (ow hw 130 rfl))) (rt_30 l Z n0 h1663 [] a0 hw hWd X1663.old b32 io36 ki36 r1463 r1489 r1530 f1665 f1672 f1679 ) (ow hw 127 rfl) (ow hw 128 rfl) (ow hw 130 rfl) (ow hw 129 rfl) (ow hw 36 rfl) (ow hw 131 rfl) (by decide) (lenOf pd__28I_29Lcom_2fexample_2fratable_2fratable_2fcore_2fPosted_3b rfl) rfl rfl rfl (W := 0) rfl (by decide) (by decide) (by decide) (by decide) all0 rfl ?_
          intro T1680 h1680 v1680 X1680 K1680 hQ1680
          obtain rfl := hQ1680
          show OGo _ _ _ _ T1680 (mkF m 232 #[.val (.int pa), .val (.int pb), .val (.int pc), .val (.int pd), .val (.ref r1), .val (.ref r10), .val (.ref r19), .val (.int 3), .val (.ref b28), .val (.ref b30), .val (.ref b32), .val (.ref r1463), .val (.ref r1489), .val (.ref r1530), .val (.int 3), .val (.int 1)] [(.ref r1463)])
          refine og_aload X1680 234 at_232 rfl rfl rfl ?_
          refine og_iconst X1680 235 (0 : Int32) at_234 rfl rfl ?_
          have f1681 := f1645.keep K1647 (ninS (Nat.ne_of_lt (Nat.lt_of_lt_of_le U28 G30)) nin0)
          have f1682 := f1681.keep K1663 nin0
          have f1683 := f1682.keep K1680 nin0
          refine own_ldR X1680 236 at_235 f1683 rfl (by decide) (by decide) rfl rfl ?_
          refine og_aload X1680 238 at_236 rfl rfl rfl ?_
          refine og_iconst X1680 239 (0 : Int32) at_238 rfl rfl ?_
          have f1684 := f1649.keep K1663 nin0
          have f1685 := f1684.keep K1680 nin0
          refine own_ldR X1680 240 at_239 f1685 rfl (by decide) (by decide) rfl rfl ?_
          have f1686 := f1505.keep K1530 (ninS (Nat.ne_of_gt (Nat.lt_of_lt_of_le (Nat.lt_of_lt_of_le U32 K36.1) ge_r1463)) (ninS (Nat.ne_of_gt (Nat.lt_of_lt_of_le f42.lt ge_r1463)) (ninS (Nat.ne_of_gt (Nat.lt_of_lt_of_le f40.lt ge_r1463)) (ninS (Nat.ne_of_gt (Nat.lt_of_lt_of_le (Nat.lt_of_lt_of_le f20.lt (Nat.le_trans (Nat.le_trans (Nat.le_trans K28.1 K30.1) K32.1) K36.1)) ge_r1463)) nin0))))
          have f1687 := f1686.keep K1546 (ninS (Nat.ne_of_gt (Nat.lt_of_lt_of_le (Nat.lt_of_lt_of_le U28 (Nat.le_trans (Nat.le_trans K30.1 K32.1) K36.1)) ge_r1463)) nin0)
          have f1688 := f1687.keep K1553 (ninS (Nat.ne_of_gt (Nat.lt_of_lt_of_le (Nat.lt_of_lt_of_le U30 (Nat.le_trans K32.1 K36.1)) ge_r1463)) nin0)
          have f1689 := f1688.keep K1584 (ninS (Nat.ne_of_gt (Nat.lt_of_lt_of_le (Nat.lt_of_lt_of_le U28 (Nat.le_trans (Nat.le_trans K30.1 K32.1) K36.1)) ge_r1463)) nin0)
          have f1690 := f1689.keep K1590 (ninS (Nat.ne_of_gt (Nat.lt_of_lt_of_le (Nat.lt_of_lt_of_le U30 (Nat.le_trans K32.1 K36.1)) ge_r1463)) nin0)
          have f1691 := f1690.keep K1640 (ninS (Nat.ne_of_gt (Nat.lt_of_lt_of_le (Nat.lt_of_lt_of_le U28 (Nat.le_trans (Nat.le_trans K30.1 K32.1) K36.1)) ge_r1463)) nin0)
          have f1692 := f1691.keep K1647 (ninS (Nat.ne_of_gt (Nat.lt_of_lt_of_le (Nat.lt_of_lt_of_le U30 (Nat.le_trans K32.1 K36.1)) ge_r1463)) nin0)
          have f1693 := f1692.keep K1663 nin0
          have f1694 := f1693.keep K1680 nin0
          have f1695 := f1618.keep K1640
          have f1696 := f1695.keep K1647
          have f1697 := f1696.keep K1663
          have f1698 := f1697.keep K1680
          have f1699 := f1620.keep K1640 (ninS (Nat.ne_of_lt (Nat.lt_of_lt_of_le (Nat.lt_of_lt_of_le f2.lt (Nat.le_trans K10.1 K19.1)) G28)) nin0)
          have f1700 := f1699.keep K1647 (ninS (Nat.ne_of_lt (Nat.lt_of_lt_of_le (Nat.lt_of_lt_of_le f2.lt (Nat.le_trans (Nat.le_trans K10.1 K19.1) K28.1)) G30)) nin0)
          have f1701 := f1700.keep K1663 nin0
          have f1702 := f1701.keep K1680 nin0
          have f1703 := f1622.keep K1640 (ninS (Nat.ne_of_lt (Nat.lt_of_lt_of_le (Nat.lt_of_lt_of_le f2.lt (Nat.le_trans K10.1 K19.1)) G28)) nin0)
          have f1704 := f1703.keep K1647 (ninS (Nat.ne_of_lt (Nat.lt_of_lt_of_le (Nat.lt_of_lt_of_le f2.lt (Nat.le_trans (Nat.le_trans K10.1 K19.1) K28.1)) G30)) nin0)
          have f1705 := f1704.keep K1663 nin0
          have f1706 := f1705.keep K1680 nin0
          have f1707 := f1624.keep K1640 (ninS (Nat.ne_of_lt (Nat.lt_of_lt_of_le (Nat.lt_of_lt_of_le f7.lt (Nat.le_trans K10.1 K19.1)) G28)) nin0)
          have f1708 := f1707.keep K1647 (ninS (Nat.ne_of_lt (Nat.lt_of_lt_of_le (Nat.lt_of_lt_of_le f7.lt (Nat.le_trans (Nat.le_trans K10.1 K19.1) K28.1)) G30)) nin0)
          have f1709 := f1708.keep K1663 nin0
          have f1710 := f1709.keep K1680 nin0
          refine own_stat X1680 243 (argsL := [(.ref r1463), (.ref r1463), (.ref r1)]) (rest := []) at_240 (rm22 l Z n0 h1680 [] a0 hw hWd X1680.old r1463 r1 t1 kt1 cs1 f1694 f1698 f1702 f1706 f1710 f9 ) (ow hw 140 rfl) (ow hw 141 rfl) (ow hw 2 rfl) (ow hw 142 rfl) (by decide) (lenOf pd__28Lcom_2fexample_2fratable_2fratable_2fcore_2fPosted_3bLcom_2fexample_2fratable_2fratable_2fcore_2fPosted_3bLjava_2flang_2fString_3b_29Z rfl) rfl rfl rfl (W := 0) rfl (by decide) (by decide) (by decide) (by decide) all0 rfl ?_
          intro T1711 h1711 v1711 X1711 K1711 hQ1711
          obtain rfl := hQ1711
          show OGo _ _ _ _ T1711 (mkF m 243 #[.val (.int pa), .val (.int pb), .val (.int pc), .val (.int pd), .val (.ref r1), .val (.ref r10), .val (.ref r19), .val (.int 3), .val (.ref b28), .val (.ref b30), .val (.ref b32), .val (.ref r1463), .val (.ref r1489), .val (.ref r1530), .val (.int 3), .val (.int 1)] [(.int 1)])
          refine og_ifN X1711 246 at_243 (XT.i0_eq_f (by decide)) rfl ?_
          refine og_iconst X1711 247 (1 : Int32) at_246 rfl rfl ?_
          refine og_goto X1711 251 at_247 (by decide) (by decide) ?_
          refine og_istore X1711 253 #[.val (.int pa), .val (.int pb), .val (.int pc), .val (.int pd), .val (.ref r1), .val (.ref r10), .val (.ref r19), .val (.int 3), .val (.ref b28), .val (.ref b30), .val (.ref b32), .val (.ref r1463), .val (.ref r1489), .val (.ref r1530), .val (.int 3), .val (.int 1)] at_251 rfl rfl ?_
          refine og_iload X1711 255 at_253 rfl rfl ?_
          refine og_iconst X1711 256 (2 : Int32) at_255 rfl rfl ?_
          refine og_icmpN X1711 259 at_256 (XT.ii_lt_f (by decide)) rfl ?_
          refine og_iload X1711 261 at_259 rfl rfl ?_
          refine og_ifN X1711 264 at_261 (XT.i0_eq_f (by decide)) rfl ?_
          refine og_aload X1711 266 at_264 rfl rfl rfl ?_
          refine og_iconst X1711 267 (1 : Int32) at_266 rfl rfl ?_
          have f1712 := f1664.keep K1680
          have f1713 := f1712.keep K1711
          have f1714 := f1665.keep K1680 nin0
          have f1715 := f1714.keep K1711 nin0
          have f1716 := f1672.keep K1680 nin0
          have f1717 := f1716.keep K1711 nin0
          have f1718 := f1679.keep K1680 nin0
          have f1719 := f1718.keep K1711 nin0
          refine own_virt X1711 270 (a := b32) (argsL := [(.int 1)]) (rest := []) at_267 f1713 (fun _ hZ => notFace_of_selects (args := #[]) (mvT hZ (ow hw 130 rfl))) (rt_31 l Z n0 h1711 [] a0 hw hWd X1711.old b32 io36 ki36 r1463 r1489 r1530 f1715 f1717 f1719 ) (ow hw 127 rfl) (ow hw 128 rfl) (ow hw 130 rfl) (ow hw 129 rfl) (ow hw 36 rfl) (ow hw 131 rfl) (by decide) (lenOf pd__28I_29Lcom_2fexample_2fratable_2fratable_2fcore_2fPosted_3b rfl) rfl rfl rfl (W := 0) rfl (by decide) (by decide) (by decide) (by decide) all0 rfl ?_
          intro T1720 h1720 v1720 X1720 K1720 hQ1720
          obtain rfl := hQ1720
          show OGo _ _ _ _ T1720 (mkF m 270 #[.val (.int pa), .val (.int pb), .val (.int pc), .val (.int pd), .val (.ref r1), .val (.ref r10), .val (.ref r19), .val (.int 3), .val (.ref b28), .val (.ref b30), .val (.ref b32), .val (.ref r1463), .val (.ref r1489), .val (.ref r1530), .val (.int 3), .val (.int 1)] [(.ref r1489)])
          refine og_aload X1720 272 at_270 rfl rfl rfl ?_
          refine og_iconst X1720 273 (1 : Int32) at_272 rfl rfl ?_
          have f1721 := f1683.keep K1711 nin0
          have f1722 := f1721.keep K1720 nin0
          refine own_ldR X1720 274 at_273 f1722 rfl (by decide) (by decide) rfl rfl ?_
          refine og_aload X1720 276 at_274 rfl rfl rfl ?_
          refine og_iconst X1720 277 (1 : Int32) at_276 rfl rfl ?_
          have f1723 := f1685.keep K1711 nin0
          have f1724 := f1723.keep K1720 nin0
          refine own_ldR X1720 278 at_277 f1724 rfl (by decide) (by decide) rfl rfl ?_
          have f1725 := f1496.keep K1530 (ninS (Nat.ne_of_gt (Nat.lt_of_lt_of_le (Nat.lt_of_lt_of_le U32 (Nat.le_trans K36.1 K1463.1)) ge_r1489)) (ninS (Nat.ne_of_gt (Nat.lt_of_lt_of_le (Nat.lt_of_lt_of_le f42.lt K1463.1) ge_r1489)) (ninS (Nat.ne_of_gt (Nat.lt_of_lt_of_le (Nat.lt_of_lt_of_le f40.lt K1463.1) ge_r1489)) (ninS (Nat.ne_of_gt (Nat.lt_of_lt_of_le (Nat.lt_of_lt_of_le f20.lt (Nat.le_trans (Nat.le_trans (Nat.le_trans (Nat.le_trans K28.1 K30.1) K32.1) K36.1) K1463.1)) ge_r1489)) nin0))))
          have f1726 := f1725.keep K1546 (ninS (Nat.ne_of_gt (Nat.lt_of_lt_of_le (Nat.lt_of_lt_of_le U28 (Nat.le_trans (Nat.le_trans (Nat.le_trans K30.1 K32.1) K36.1) K1463.1)) ge_r1489)) nin0)
          have f1727 := f1726.keep K1553 (ninS (Nat.ne_of_gt (Nat.lt_of_lt_of_le (Nat.lt_of_lt_of_le U30 (Nat.le_trans (Nat.le_trans K32.1 K36.1) K1463.1)) ge_r1489)) nin0)
          have f1728 := f1727.keep K1584 (ninS (Nat.ne_of_gt (Nat.lt_of_lt_of_le (Nat.lt_of_lt_of_le U28 (Nat.le_trans (Nat.le_trans (Nat.le_trans K30.1 K32.1) K36.1) K1463.1)) ge_r1489)) nin0)
          have f1729 := f1728.keep K1590 (ninS (Nat.ne_of_gt (Nat.lt_of_lt_of_le (Nat.lt_of_lt_of_le U30 (Nat.le_trans (Nat.le_trans K32.1 K36.1) K1463.1)) ge_r1489)) nin0)
          have f1730 := f1729.keep K1640 (ninS (Nat.ne_of_gt (Nat.lt_of_lt_of_le (Nat.lt_of_lt_of_le U28 (Nat.le_trans (Nat.le_trans (Nat.le_trans K30.1 K32.1) K36.1) K1463.1)) ge_r1489)) nin0)
          have f1731 := f1730.keep K1647 (ninS (Nat.ne_of_gt (Nat.lt_of_lt_of_le (Nat.lt_of_lt_of_le U30 (Nat.le_trans (Nat.le_trans K32.1 K36.1) K1463.1)) ge_r1489)) nin0)
          have f1732 := f1731.keep K1663 nin0
          have f1733 := f1732.keep K1680 nin0
          have f1734 := f1733.keep K1711 nin0
          have f1735 := f1734.keep K1720 nin0
          have f1736 := f1629.keep K1640
          have f1737 := f1736.keep K1647
          have f1738 := f1737.keep K1663
          have f1739 := f1738.keep K1680
          have f1740 := f1739.keep K1711
          have f1741 := f1740.keep K1720
          have f1742 := f1631.keep K1640 (ninS (Nat.ne_of_lt (Nat.lt_of_lt_of_le (Nat.lt_of_lt_of_le f11.lt K19.1) G28)) nin0)
          have f1743 := f1742.keep K1647 (ninS (Nat.ne_of_lt (Nat.lt_of_lt_of_le (Nat.lt_of_lt_of_le f11.lt (Nat.le_trans K19.1 K28.1)) G30)) nin0)
          have f1744 := f1743.keep K1663 nin0
          have f1745 := f1744.keep K1680 nin0
          have f1746 := f1745.keep K1711 nin0
          have f1747 := f1746.keep K1720 nin0
          have f1748 := f1633.keep K1640 (ninS (Nat.ne_of_lt (Nat.lt_of_lt_of_le (Nat.lt_of_lt_of_le f11.lt K19.1) G28)) nin0)
          have f1749 := f1748.keep K1647 (ninS (Nat.ne_of_lt (Nat.lt_of_lt_of_le (Nat.lt_of_lt_of_le f11.lt (Nat.le_trans K19.1 K28.1)) G30)) nin0)
          have f1750 := f1749.keep K1663 nin0
          have f1751 := f1750.keep K1680 nin0
          have f1752 := f1751.keep K1711 nin0
          have f1753 := f1752.keep K1720 nin0
          have f1754 := f1635.keep K1640 (ninS (Nat.ne_of_lt (Nat.lt_of_lt_of_le (Nat.lt_of_lt_of_le f16.lt K19.1) G28)) nin0)
          have f1755 := f1754.keep K1647 (ninS (Nat.ne_of_lt (Nat.lt_of_lt_of_le (Nat.lt_of_lt_of_le f16.lt (Nat.le_trans K19.1 K28.1)) G30)) nin0)
          have f1756 := f1755.keep K1663 nin0
          have f1757 := f1756.keep K1680 nin0
          have f1758 := f1757.keep K1711 nin0
          have f1759 := f1758.keep K1720 nin0
          refine own_stat X1720 281 (argsL := [(.ref r1489), (.ref r1489), (.ref r10)]) (rest := []) at_278 (rm22 l Z n0 h1720 [] a0 hw hWd X1720.old r1489 r10 t10 kt10 cs10 f1735 f1741 f1747 f1753 f1759 f18 ) (ow hw 140 rfl) (ow hw 141 rfl) (ow hw 2 rfl) (ow hw 142 rfl) (by decide) (lenOf pd__28Lcom_2fexample_2fratable_2fratable_2fcore_2fPosted_3bLcom_2fexample_2fratable_2fratable_2fcore_2fPosted_3bLjava_2flang_2fString_3b_29Z rfl) rfl rfl rfl (W := 0) rfl (by decide) (by decide) (by decide) (by decide) all0 rfl ?_
          intro T1760 h1760 v1760 X1760 K1760 hQ1760
          obtain rfl := hQ1760
          show OGo _ _ _ _ T1760 (mkF m 281 #[.val (.int pa), .val (.int pb), .val (.int pc), .val (.int pd), .val (.ref r1), .val (.ref r10), .val (.ref r19), .val (.int 3), .val (.ref b28), .val (.ref b30), .val (.ref b32), .val (.ref r1463), .val (.ref r1489), .val (.ref r1530), .val (.int 3), .val (.int 1)] [(.int 1)])
          refine og_ifN X1760 284 at_281 (XT.i0_eq_f (by decide)) rfl ?_
          refine og_iconst X1760 285 (1 : Int32) at_284 rfl rfl ?_
          refine og_goto X1760 289 at_285 (by decide) (by decide) ?_
          refine og_istore X1760 291 #[.val (.int pa), .val (.int pb), .val (.int pc), .val (.int pd), .val (.ref r1), .val (.ref r10), .val (.ref r19), .val (.int 3), .val (.ref b28), .val (.ref b30), .val (.ref b32), .val (.ref r1463), .val (.ref r1489), .val (.ref r1530), .val (.int 3), .val (.int 1)] at_289 rfl rfl ?_
          refine og_iload X1760 293 at_291 rfl rfl ?_
          refine og_iconst X1760 294 (3 : Int32) at_293 rfl rfl ?_
          refine og_icmpN X1760 297 at_294 (XT.ii_lt_f (by decide)) rfl ?_
          refine og_iload X1760 299 at_297 rfl rfl ?_
          refine og_ifN X1760 302 at_299 (XT.i0_eq_f (by decide)) rfl ?_
          refine og_aload X1760 304 at_302 rfl rfl rfl ?_
          refine og_iconst X1760 305 (2 : Int32) at_304 rfl rfl ?_
          have f1761 := f1713.keep K1720
          have f1762 := f1761.keep K1760
          have f1763 := f1715.keep K1720 nin0
          have f1764 := f1763.keep K1760 nin0
          have f1765 := f1717.keep K1720 nin0
          have f1766 := f1765.keep K1760 nin0
          have f1767 := f1719.keep K1720 nin0
          have f1768 := f1767.keep K1760 nin0
          refine own_virt X1760 308 (a := b32) (argsL := [(.int 2)]) (rest := []) at_305 f1762 (fun _ hZ => notFace_of_selects (args := #[]) (mvT hZ (ow hw 130 rfl))) (rt_32 l Z n0 h1760 [] a0 hw hWd X1760.old b32 io36 ki36 r1463 r1489 r1530 f1764 f1766 f1768 ) (ow hw 127 rfl) (ow hw 128 rfl) (ow hw 130 rfl) (ow hw 129 rfl) (ow hw 36 rfl) (ow hw 131 rfl) (by decide) (lenOf pd__28I_29Lcom_2fexample_2fratable_2fratable_2fcore_2fPosted_3b rfl) rfl rfl rfl (W := 0) rfl (by decide) (by decide) (by decide) (by decide) all0 rfl ?_
          intro T1769 h1769 v1769 X1769 K1769 hQ1769
          obtain rfl := hQ1769
          show OGo _ _ _ _ T1769 (mkF m 308 #[.val (.int pa), .val (.int pb), .val (.int pc), .val (.int pd), .val (.ref r1), .val (.ref r10), .val (.ref r19), .val (.int 3), .val (.ref b28), .val (.ref b30), .val (.ref b32), .val (.ref r1463), .val (.ref r1489), .val (.ref r1530), .val (.int 3), .val (.int 1)] [(.ref r1530)])
          refine og_aload X1769 310 at_308 rfl rfl rfl ?_
          refine og_iconst X1769 311 (2 : Int32) at_310 rfl rfl ?_
          have f1770 := f1722.keep K1760 nin0
          have f1771 := f1770.keep K1769 nin0
          refine own_ldR X1769 312 at_311 f1771 rfl (by decide) (by decide) rfl rfl ?_
          refine og_aload X1769 314 at_312 rfl rfl rfl ?_
          refine og_iconst X1769 315 (2 : Int32) at_314 rfl rfl ?_
          have f1772 := f1724.keep K1760 nin0
          have f1773 := f1772.keep K1769 nin0
          refine own_ldR X1769 316 at_315 f1773 rfl (by decide) (by decide) rfl rfl ?_
          have f1774 := f1537.keep K1546 (ninS (Nat.ne_of_gt (Nat.lt_of_lt_of_le (Nat.lt_of_lt_of_le U28 (Nat.le_trans (Nat.le_trans (Nat.le_trans (Nat.le_trans K30.1 K32.1) K36.1) K1463.1) K1489.1)) ge_r1530)) nin0)
          have f1775 := f1774.keep K1553 (ninS (Nat.ne_of_gt (Nat.lt_of_lt_of_le (Nat.lt_of_lt_of_le U30 (Nat.le_trans (Nat.le_trans (Nat.le_trans K32.1 K36.1) K1463.1) K1489.1)) ge_r1530)) nin0)
          have f1776 := f1775.keep K1584 (ninS (Nat.ne_of_gt (Nat.lt_of_lt_of_le (Nat.lt_of_lt_of_le U28 (Nat.le_trans (Nat.le_trans (Nat.le_trans (Nat.le_trans K30.1 K32.1) K36.1) K1463.1) K1489.1)) ge_r1530)) nin0)
          have f1777 := f1776.keep K1590 (ninS (Nat.ne_of_gt (Nat.lt_of_lt_of_le (Nat.lt_of_lt_of_le U30 (Nat.le_trans (Nat.le_trans (Nat.le_trans K32.1 K36.1) K1463.1) K1489.1)) ge_r1530)) nin0)
          have f1778 := f1777.keep K1640 (ninS (Nat.ne_of_gt (Nat.lt_of_lt_of_le (Nat.lt_of_lt_of_le U28 (Nat.le_trans (Nat.le_trans (Nat.le_trans (Nat.le_trans K30.1 K32.1) K36.1) K1463.1) K1489.1)) ge_r1530)) nin0)
          have f1779 := f1778.keep K1647 (ninS (Nat.ne_of_gt (Nat.lt_of_lt_of_le (Nat.lt_of_lt_of_le U30 (Nat.le_trans (Nat.le_trans (Nat.le_trans K32.1 K36.1) K1463.1) K1489.1)) ge_r1530)) nin0)
          have f1780 := f1779.keep K1663 nin0
          have f1781 := f1780.keep K1680 nin0
          have f1782 := f1781.keep K1711 nin0
          have f1783 := f1782.keep K1720 nin0
          have f1784 := f1783.keep K1760 nin0
          have f1785 := f1784.keep K1769 nin0
          have f1786 := f1648.keep K1647
          have f1787 := f1786.keep K1663
          have f1788 := f1787.keep K1680
          have f1789 := f1788.keep K1711
          have f1790 := f1789.keep K1720
          have f1791 := f1790.keep K1760
          have f1792 := f1791.keep K1769
          have f1793 := f1601.keep K1640 (ninS (Nat.ne_of_lt (Nat.lt_of_lt_of_le f20.lt G28)) nin0)
          have f1794 := f1793.keep K1647 (ninS (Nat.ne_of_lt (Nat.lt_of_lt_of_le (Nat.lt_of_lt_of_le f20.lt K28.1) G30)) nin0)
          have f1795 := f1794.keep K1663 nin0
          have f1796 := f1795.keep K1680 nin0
          have f1797 := f1796.keep K1711 nin0
          have f1798 := f1797.keep K1720 nin0
          have f1799 := f1798.keep K1760 nin0
          have f1800 := f1799.keep K1769 nin0
          have f1801 := f1605.keep K1640 (ninS (Nat.ne_of_lt (Nat.lt_of_lt_of_le f20.lt G28)) nin0)
          have f1802 := f1801.keep K1647 (ninS (Nat.ne_of_lt (Nat.lt_of_lt_of_le (Nat.lt_of_lt_of_le f20.lt K28.1) G30)) nin0)
          have f1803 := f1802.keep K1663 nin0
          have f1804 := f1803.keep K1680 nin0
          have f1805 := f1804.keep K1711 nin0
          have f1806 := f1805.keep K1720 nin0
          have f1807 := f1806.keep K1760 nin0
          have f1808 := f1807.keep K1769 nin0
          have f1809 := f1615.keep K1640 (ninS (Nat.ne_of_lt (Nat.lt_of_lt_of_le f25.lt G28)) nin0)
          have f1810 := f1809.keep K1647 (ninS (Nat.ne_of_lt (Nat.lt_of_lt_of_le (Nat.lt_of_lt_of_le f25.lt K28.1) G30)) nin0)
          have f1811 := f1810.keep K1663 nin0
          have f1812 := f1811.keep K1680 nin0
          have f1813 := f1812.keep K1711 nin0
          have f1814 := f1813.keep K1720 nin0
          have f1815 := f1814.keep K1760 nin0
          have f1816 := f1815.keep K1769 nin0
          refine own_stat X1769 319 (argsL := [(.ref r1530), (.ref r1530), (.ref r19)]) (rest := []) at_316 (rm22 l Z n0 h1769 [] a0 hw hWd X1769.old r1530 r19 t19 kt19 cs19 f1785 f1792 f1800 f1808 f1816 f27 ) (ow hw 140 rfl) (ow hw 141 rfl) (ow hw 2 rfl) (ow hw 142 rfl) (by decide) (lenOf pd__28Lcom_2fexample_2fratable_2fratable_2fcore_2fPosted_3bLcom_2fexample_2fratable_2fratable_2fcore_2fPosted_3bLjava_2flang_2fString_3b_29Z rfl) rfl rfl rfl (W := 0) rfl (by decide) (by decide) (by decide) (by decide) all0 rfl ?_
          intro T1817 h1817 v1817 X1817 K1817 hQ1817
          obtain rfl := hQ1817
          show OGo _ _ _ _ T1817 (mkF m 319 #[.val (.int pa), .val (.int pb), .val (.int pc), .val (.int pd), .val (.ref r1), .val (.ref r10), .val (.ref r19), .val (.int 3), .val (.ref b28), .val (.ref b30), .val (.ref b32), .val (.ref r1463), .val (.ref r1489), .val (.ref r1530), .val (.int 3), .val (.int 1)] [(.int 1)])
          refine og_ifN X1817 322 at_319 (XT.i0_eq_f (by decide)) rfl ?_
          refine og_iconst X1817 323 (1 : Int32) at_322 rfl rfl ?_
          refine og_goto X1817 327 at_323 (by decide) (by decide) ?_
          refine og_istore X1817 329 #[.val (.int pa), .val (.int pb), .val (.int pc), .val (.int pd), .val (.ref r1), .val (.ref r10), .val (.ref r19), .val (.int 3), .val (.ref b28), .val (.ref b30), .val (.ref b32), .val (.ref r1463), .val (.ref r1489), .val (.ref r1530), .val (.int 3), .val (.int 1)] at_327 rfl rfl ?_
          refine og_iload X1817 331 at_329 rfl rfl ?_
          refine own_retZ X1817 at_331 hret rfl (by decide) (by decide) ?_
          exact rfl
end OwnWalks
set_option maxRecDepth 65536 in
set_option maxHeartbeats 40000000 in
theorem comes_1 {Post : Tables → Env → Array Value → State → Outcome → State → Prop} (hpost : ∀ tb e args s v u, (limb_1_1.after args s (.returned v) u = true ∧ limb_1_2.after args s (.returned v) u = true ∧ True) → FrameEnd s (.returned v) u (Jvm.fieldLocs frame_1_writes args s ++ Jvm.arrayLocs frame_1_arrays args s ++ Jvm.staticLocs frame_1_statics s) 96 448 → Post tb e args s (.returned v) u) :
    ArmFor flags0 classFile x code maxLocals ret World_1 tables_1 room_1 Calls_1 rest_1 Pre_1 Post := by
  intro l hfl _ _ p e ha hc hk s m args below hf hA hF happ hP
  obtain ⟨hcalls, hrest, hpre⟩ := hP
  obtain ⟨-, -, -, hnamed, -, -, -, hat⟩ := (Spec.applies_iff hf).mp happ
  obtain ⟨hg, hn⟩ := and_e (Cond.before_iff.mp (show (Jvm.Cond.and given_1 narrow_1).before args s = true from hpre))
  obtain ⟨hcount, g0⟩ := and_e hg
  obtain ⟨i0, g1⟩ := and_e g0
  obtain ⟨i1, g2⟩ := and_e g1
  obtain ⟨i2, g3⟩ := and_e g2
  have i3 := g3
  obtain ⟨w0, w1, w2, w3, rfl⟩ : ∃ w0 w1 w2 w3 : Value, args = #[w0, w1, w2, w3] := by
    have hs : args.size = 4 := by simpa [Cond.value, given_1] using hcount
    obtain ⟨L⟩ := args
    match L, hs with
    | [w0, w1, w2, w3], _ => exact ⟨w0, w1, w2, w3, rfl⟩
  have hw := fun d (hd : d ∈ tables_1) => atoms_spec (ws := Jvm.Cond.code x code maxLocals ret :: tables_1) hat d (List.mem_cons_of_mem _ hd)
  obtain ⟨hsets, hown0⟩ := atoms_of _ (rest_1_c_eq ▸ (show rest_1_c.before _ s = true from hrest))
  obtain ⟨x0, e0⟩ := is_v i0
  obtain rfl : w0 = (.int x0) := Option.some.inj e0
  obtain ⟨x1, e1⟩ := is_v i1
  obtain rfl : w1 = (.int x1) := Option.some.inj e1
  obtain ⟨x2, e2⟩ := is_v i2
  obtain rfl : w2 = (.int x2) := Option.some.inj e2
  obtain ⟨x3, e3⟩ := is_v i3
  obtain rfl : w3 = (.int x3) := Option.some.inj e3
  have hEL : EW s #[(.int x0), (.int x1), (.int x2), (.int x3)] own_EL := EW.nil
  obtain ⟨r0, f0⟩ := is_v (Cond.before_iff.mp (hsets _ (om 1 rfl)))
  have t0 : own_sti s "java/lang/String" "COMPACT_STRINGS" "Z" = r0 := own_sti_of f0
  have S0 := Sta.start f0 (Or.inl (hsets _ (om 0 rfl)))
  have c0 : ¬ (r0 = (0 : Int32)) := gotF (Cond.eq_ints f0 (Term.int_eval (0))) (not_v (Cond.before_iff.mp (hsets _ (om 2 rfl))))
  have hWd : OWorld s #[(.int x0), (.int x1), (.int x2), (.int x3)] := ⟨hEL, ⟨by rw [t0]; exact S0, by rw [t0]; exact c0⟩⟩
  have hCH : CHv s own_EL s.vm s.heap := fun p hp => by cases hp
  obtain ⟨n, o, h1, h2, h3, v, L, rfl, ⟨N, -, hQ⟩, -, hqW, hqN⟩ := rm0 l s s.heap.size s.heap tables_1 _ hw hWd (Old.start s) x0 x1 x2 x3 p e ha hc hk s m _ below hf ((Spec.applies_iff_loose hf).mp happ).1 ⟨rfl, State.Warmed39.refl s, rfl, hCH, fun _ q => nomatch q⟩ trivial
  obtain rfl := hQ
  have hq := hqN rfl
  refine ⟨n, _, h1, h2, h3, hpost _ _ _ _ _ _ ⟨Cond.after_iff.mpr rfl, Cond.after_iff.mpr (eq_i res_at (Term.int_eval (1)) rfl), trivial⟩ ⟨hq.1, hq.2.1, (hq.2.2.sift fun y hy => Or.inr (N y hy)).mono (by decide) (by decide)⟩⟩
theorem main_1_1 : Claimed_1_1 := comes_1 fun _ _ _ _ _ _ h hF => ⟨h.1, hF⟩
theorem main_1_2 : Claimed_1_2 := comes_1 fun _ _ _ _ _ _ h hF => ⟨h.2.1, hF⟩
end Jvm.Pilot.@@N@@
namespace Jvm.Pilot.@@N@@
open Jvm Jvm.ClassFile Sem Op Lib Jvm.Free Jvm.Stand Jvm.Pilot.@@N@@.Jvm.D
/-! MADE BY PROGRAM (witnessworld.py) out of the Statement's table words and the real class files: 34 classes; the members and pool entries that the words name. The judged class is class 1, her method 1. -/
namespace start1
open Jvm.ClassFile
def u (s : String) : CpInfo := .utf8 (stringToUtf16 s)
/-- a pool by its gaps: so many unusable entries, then the entry; so many at the end -/
def gap : Nat → List CpInfo → List CpInfo
  | 0, r => r
  | n + 1, r => .unusable :: gap n r
def poolList (es : List (Nat × CpInfo)) (last : Nat) : List CpInfo := es.foldr (fun e r => gap e.1 (e.2 :: r)) (gap last [])
def pool (es : List (Nat × CpInfo)) (last : Nat) : Array CpInfo := ⟨poolList es last⟩
def fileOf (pool : Array CpInfo) (this : Nat) (attrs : Array Attribute := #[]) (ms : Array MethodInfo := #[]) (fl : Nat := 33) (sup : Nat := 0) (ifs : Array Nat := #[]) (fds : Array FieldInfo := #[]) : ClassFile where
  minorVersion := 0
  majorVersion := 65
  constantPool := pool
  accessFlags := fl
  thisClass := this
  superClass := sup
  interfaces := ifs
  fields := fds
  methods := ms
  attributes := attrs
def plain (name : String) (sup : Option ClassId) : Class where
  name := name
  kind := .ordinary
  loader := none
  accessFlags := 33
  super := sup
  interfaces := #[]
  cf := none
  fields := #[]
  methods := #[]
  instanceTypes := #[]
  staticTypes := #[]
  resolved := #[]
  callSites := []
  init := .initialized
  statics := none
  mirror := none

def pool0 : Array CpInfo := pool [(5, u "<init>"), (0, u "()V"), (1, .class_ 10), (1, u "java/lang/Object")] 113

def k0c0 : Code := { maxStack := 0, maxLocals := 1, code := object_method_1_code, exceptionTable := #[], attributes := #[] }
def k0m0 : Method := { name := "<init>", desc := "()V", sig := { parameters := [], returnType := none }, accessFlags := 1, code := some k0c0 }
/-- java/lang/Object -/
def k0 : Class := { plain "java/lang/Object" none with
  accessFlags := 33
  interfaces := #[]
  cf := some (fileOf pool0 8 #[] #[{ accessFlags := 1, nameIndex := 5, descriptorIndex := 6, attributes := #[] }] 33 0 #[] #[])
  fields := #[]
  methods := #[k0m0]
  instanceTypes := #[]
  staticTypes := #[]
  resolved := Array.replicate 124 none
  statics := none }

def pool1 : Array CpInfo := pool [(2, .class_ 4), (0, .nameAndType 5 6), (0, u "java/lang/Object"), (0, u "<init>"), (0, u "()V"), (0, .methodref 8 9), (0, .class_ 10), (0, .nameAndType 11 12), (0, u "com/example/ratable/ratable/core/PostedByIdAtPinLaw"), (0, u "id"), (0, u "(I)Ljava/lang/String;"), (0, .class_ 14), (0, u "com/example/ratable/ratable/core/Posted"), (0, .class_ 16), (0, u "java/lang/String"), (0, .class_ 18), (0, u "com/example/ratable/ratable/core/PostedById"), (0, .methodref 17 3), (0, .methodref 17 21), (0, .nameAndType 22 23), (0, u "open"), (0, u "(Ljava/lang/String;)Lcom/example/ratable/ratable/core/Posted;"), (0, .methodref 15 25), (0, .nameAndType 26 27), (0, u "equals"), (0, u "(Ljava/lang/Object;)Z"), (0, .methodref 17 29), (0, .nameAndType 30 31), (0, u "size"), (0, u "()I"), (0, .methodref 17 33), (0, .nameAndType 34 35), (0, u "at"), (0, u "(I)Lcom/example/ratable/ratable/core/Posted;"), (0, .methodref 8 37), (0, .nameAndType 38 39), (0, u "same"), (0, u "(Lcom/example/ratable/ratable/core/Posted;Lcom/example/ratable/ratable/core/Posted;Ljava/lang/String;)Z"), (0, .fieldref 13 41), (0, .nameAndType 11 42), (0, u "Ljava/lang/String;"), (0, .methodref 15 44), (0, .nameAndType 45 46), (0, u "valueOf"), (0, u "(C)Ljava/lang/String;"), (0, .methodref 15 48), (0, .nameAndType 5 49), (0, u "([C)V"), (2, u "law"), (0, u "(IIII)Z")] 7

def k1m0 : Method := { name := "<init>", desc := "()V", sig := { parameters := [], returnType := none }, accessFlags := 1, code := none }
def k1c1 : Code := { maxStack := 4, maxLocals := 16, code := code, exceptionTable := #[], attributes := #[] }
def k1m1 : Method := { name := "law", desc := "(IIII)Z", sig := { parameters := [.int, .int, .int, .int], returnType := some .boolean }, accessFlags := 9, code := some k1c1 }
def k1c2 : Code := { maxStack := 2, maxLocals := 3, code := method_3_code, exceptionTable := #[], attributes := #[] }
def k1m2 : Method := { name := "same", desc := "(Lcom/example/ratable/ratable/core/Posted;Lcom/example/ratable/ratable/core/Posted;Ljava/lang/String;)Z", sig := { parameters := [(.object "com/example/ratable/ratable/core/Posted"), (.object "com/example/ratable/ratable/core/Posted"), (.object "java/lang/String")], returnType := some .boolean }, accessFlags := 10, code := some k1c2 }
def k1c3 : Code := { maxStack := 4, maxLocals := 2, code := method_4_code, exceptionTable := #[], attributes := #[] }
def k1m3 : Method := { name := "id", desc := "(I)Ljava/lang/String;", sig := { parameters := [.int], returnType := some (.object "java/lang/String") }, accessFlags := 10, code := some k1c3 }
/-- com/example/ratable/ratable/core/PostedByIdAtPinLaw -/
def k1 : Class := { plain "com/example/ratable/ratable/core/PostedByIdAtPinLaw" (some 0) with
  accessFlags := 49
  interfaces := #[]
  cf := some (fileOf pool1 8 #[] #[{ accessFlags := 1, nameIndex := 5, descriptorIndex := 6, attributes := #[] }, { accessFlags := 9, nameIndex := 52, descriptorIndex := 53, attributes := #[] }, { accessFlags := 10, nameIndex := 38, descriptorIndex := 39, attributes := #[] }, { accessFlags := 10, nameIndex := 11, descriptorIndex := 12, attributes := #[] }] 49 2 #[] #[])
  fields := #[]
  methods := #[k1m0, k1m1, k1m2, k1m3]
  instanceTypes := #[]
  staticTypes := #[]
  resolved := Array.replicate 61 none
  statics := none }

def pool2 : Array CpInfo := pool [(1, .class_ 2), (0, u "java/io/Serializable"), (0, .class_ 4), (0, u "java/lang/Object")] 2

/-- java/io/Serializable -/
def k2 : Class := { plain "java/io/Serializable" (some 0) with
  accessFlags := 1537
  interfaces := #[]
  cf := some (fileOf pool2 1 #[] #[] 1537 3 #[] #[])
  fields := #[]
  methods := #[]
  instanceTypes := #[]
  staticTypes := #[]
  resolved := Array.replicate 7 none
  statics := none }

def pool3 : Array CpInfo := pool [(1, .class_ 2), (0, u "java/lang/Comparable"), (0, .class_ 4), (0, u "java/lang/Object")] 7

/-- java/lang/Comparable -/
def k3 : Class := { plain "java/lang/Comparable" (some 0) with
  accessFlags := 1537
  interfaces := #[]
  cf := some (fileOf pool3 1 #[] #[] 1537 3 #[] #[])
  fields := #[]
  methods := #[]
  instanceTypes := #[]
  staticTypes := #[]
  resolved := Array.replicate 12 none
  statics := none }

def pool4 : Array CpInfo := pool [(2, .class_ 4), (1, u "java/lang/CharSequence"), (42, .class_ 48), (0, u "java/lang/CharSequence$1CodePointIterator"), (10, .class_ 60), (0, u "java/lang/CharSequence$1CharIterator"), (5, .class_ 67), (0, u "java/lang/Object")] 63

/-- java/lang/CharSequence -/
def k4 : Class := { plain "java/lang/CharSequence" (some 0) with
  accessFlags := 1537
  interfaces := #[]
  cf := some (fileOf pool4 2 #[.nestMembers #[47, 59]] #[] 1537 66 #[] #[])
  fields := #[]
  methods := #[]
  instanceTypes := #[]
  staticTypes := #[]
  resolved := Array.replicate 131 none
  statics := none }

def pool5 : Array CpInfo := pool [(1, .class_ 2), (0, u "java/lang/constant/Constable"), (0, .class_ 4), (0, u "java/lang/Object")] 6

/-- java/lang/constant/Constable -/
def k5 : Class := { plain "java/lang/constant/Constable" (some 0) with
  accessFlags := 1537
  interfaces := #[]
  cf := some (fileOf pool5 1 #[] #[] 1537 3 #[] #[])
  fields := #[]
  methods := #[]
  instanceTypes := #[]
  staticTypes := #[]
  resolved := Array.replicate 11 none
  statics := none }

def pool6 : Array CpInfo := pool [(1, .class_ 2), (0, u "java/lang/constant/ConstantDesc"), (0, .class_ 4), (0, u "java/lang/Object")] 32

/-- java/lang/constant/ConstantDesc -/
def k6 : Class := { plain "java/lang/constant/ConstantDesc" (some 0) with
  accessFlags := 1537
  interfaces := #[]
  cf := some (fileOf pool6 1 #[] #[] 1537 3 #[] #[])
  fields := #[]
  methods := #[]
  instanceTypes := #[]
  staticTypes := #[]
  resolved := Array.replicate 37 none
  statics := none }

def pool7 : Array CpInfo := pool [(1, .methodref 2 3), (0, .class_ 4), (0, .nameAndType 5 6), (0, u "java/lang/Object"), (0, u "<init>"), (0, u "()V"), (2, .fieldref 10 11), (0, .class_ 12), (0, .nameAndType 13 14), (0, u "java/lang/String"), (0, u "value"), (0, u "[B"), (0, .fieldref 10 16), (0, .nameAndType 17 18), (0, u "coder"), (0, u "B"), (0, .fieldref 10 20), (0, .nameAndType 21 22), (0, u "hash"), (0, u "I"), (0, .fieldref 10 24), (0, .nameAndType 25 26), (0, u "hashIsZero"), (0, u "Z"), (0, .methodref 10 28), (0, .nameAndType 5 29), (0, u "([CIILjava/lang/Void;)V"), (8, .fieldref 10 39), (0, .nameAndType 40 26), (0, u "COMPACT_STRINGS"), (1, .class_ 44), (1, u "java/lang/StringUTF16"), (0, u "compress"), (1, .methodref 42 48), (0, .nameAndType 49 50), (0, u "coderFromArrayLen"), (0, u "([BI)B"), (2, u "toBytes"), (53, .class_ 109), (1, u "java/lang/StringLatin1"), (32, u "()Z"), (34, .methodref 42 178), (0, .nameAndType 45 179), (0, u "([CII)[B"), (29, .methodref 10 210), (0, .nameAndType 5 211), (0, u "([BB)V"), (122, u "()I"), (34, u "(C)Z"), (122, .methodref 10 493), (0, .nameAndType 494 142), (0, u "isLatin1"), (46, .methodref 107 542), (0, .nameAndType 543 544), (0, u "equals"), (0, u "([B[B)Z"), (28, u "(Ljava/lang/Object;)Z"), (1, .class_ 576), (0, u "java/lang/CharSequence"), (22, u "CASE_INSENSITIVE_ORDER"), (0, u "Ljava/util/Comparator;"), (27, .methodref 107 629), (0, .nameAndType 630 631), (0, u "hashCode"), (0, u "([B)I"), (150, u "valueOf"), (0, u "(C)Ljava/lang/String;"), (226, u "([C)V"), (4, .methodref 107 1016), (0, .nameAndType 1017 369), (0, u "canEncode"), (0, .methodref 107 1019), (0, .nameAndType 53 1020), (0, u "(C)[B"), (80, u "serialPersistentFields"), (0, u "[Ljava/io/ObjectStreamField;"), (0, .class_ 1104), (0, u "java/lang/String$CaseInsensitiveComparator"), (1, .class_ 1107), (0, u "java/io/Serializable"), (0, .class_ 1109), (0, u "java/lang/Comparable"), (0, .class_ 1111), (0, u "java/lang/constant/Constable"), (0, .class_ 1113), (0, u "java/lang/constant/ConstantDesc"), (2, u "serialVersionUID"), (0, u "J"), (3, u "REPL"), (0, u "C"), (2, u "LATIN1"), (1, u "UTF16")] 323

def k7m0 : Method := { name := "<init>", desc := "()V", sig := { parameters := [], returnType := none }, accessFlags := 1, code := none }
def k7c1 : Code := { maxStack := 5, maxLocals := 2, code := jdk_42_method_3_code, exceptionTable := #[], attributes := #[] }
def k7m1 : Method := { name := "<init>", desc := "([C)V", sig := { parameters := [(.array .char)], returnType := none }, accessFlags := 1, code := some k7c1 }
def k7c2 : Code := { maxStack := 2, maxLocals := 3, code := jdk_42_method_66_code, exceptionTable := #[], attributes := #[] }
def k7m2 : Method := { name := "equals", desc := "(Ljava/lang/Object;)Z", sig := { parameters := [(.object "java/lang/Object")], returnType := some .boolean }, accessFlags := 1, code := some k7c2 }
def k7c3 : Code := { maxStack := 2, maxLocals := 2, code := jdk_42_method_78_code, exceptionTable := #[], attributes := #[] }
def k7m3 : Method := { name := "hashCode", desc := "()I", sig := { parameters := [], returnType := some .int }, accessFlags := 1, code := some k7c3 }
def k7c4 : Code := { maxStack := 4, maxLocals := 1, code := jdk_42_method_139_code, exceptionTable := #[], attributes := #[] }
def k7m4 : Method := { name := "valueOf", desc := "(C)Ljava/lang/String;", sig := { parameters := [.char], returnType := some (.object "java/lang/String") }, accessFlags := 9, code := some k7c4 }
def k7c5 : Code := { maxStack := 4, maxLocals := 6, code := jdk_42_method_149_code, exceptionTable := #[], attributes := #[] }
def k7m5 : Method := { name := "<init>", desc := "([CIILjava/lang/Void;)V", sig := { parameters := [(.array .char), .int, .int, (.object "java/lang/Void")], returnType := none }, accessFlags := 2, code := some k7c5 }
def k7c6 : Code := { maxStack := 2, maxLocals := 3, code := jdk_42_method_151_code, exceptionTable := #[], attributes := #[] }
def k7m6 : Method := { name := "<init>", desc := "([BB)V", sig := { parameters := [(.array .byte), .byte], returnType := none }, accessFlags := 0, code := some k7c6 }
def k7c7 : Code := { maxStack := 1, maxLocals := 1, code := jdk_42_method_154_code, exceptionTable := #[], attributes := #[] }
def k7m7 : Method := { name := "isLatin1", desc := "()Z", sig := { parameters := [], returnType := some .boolean }, accessFlags := 0, code := some k7c7 }
/-- java/lang/String -/
def k7 : Class := { plain "java/lang/String" (some 0) with
  accessFlags := 49
  interfaces := #[2, 3, 4, 5, 6]
  cf := some (fileOf pool7 10 #[.nestMembers #[1103]] #[{ accessFlags := 1, nameIndex := 5, descriptorIndex := 6, attributes := #[] }, { accessFlags := 1, nameIndex := 5, descriptorIndex := 1010, attributes := #[] }, { accessFlags := 1, nameIndex := 543, descriptorIndex := 573, attributes := #[] }, { accessFlags := 1, nameIndex := 630, descriptorIndex := 334, attributes := #[] }, { accessFlags := 9, nameIndex := 782, descriptorIndex := 783, attributes := #[] }, { accessFlags := 2, nameIndex := 5, descriptorIndex := 29, attributes := #[] }, { accessFlags := 0, nameIndex := 5, descriptorIndex := 211, attributes := #[] }, { accessFlags := 0, nameIndex := 494, descriptorIndex := 142, attributes := #[] }] 49 2 #[1106, 1108, 575, 1110, 1112] #[{ accessFlags := 18, nameIndex := 13, descriptorIndex := 14, attributes := #[] }, { accessFlags := 18, nameIndex := 17, descriptorIndex := 18, attributes := #[] }, { accessFlags := 2, nameIndex := 21, descriptorIndex := 22, attributes := #[] }, { accessFlags := 2, nameIndex := 25, descriptorIndex := 26, attributes := #[] }, { accessFlags := 26, nameIndex := 1116, descriptorIndex := 1117, attributes := #[] }, { accessFlags := 24, nameIndex := 40, descriptorIndex := 26, attributes := #[] }, { accessFlags := 26, nameIndex := 1101, descriptorIndex := 1102, attributes := #[] }, { accessFlags := 26, nameIndex := 1121, descriptorIndex := 1122, attributes := #[] }, { accessFlags := 25, nameIndex := 599, descriptorIndex := 600, attributes := #[] }, { accessFlags := 24, nameIndex := 1125, descriptorIndex := 18, attributes := #[] }, { accessFlags := 24, nameIndex := 1127, descriptorIndex := 18, attributes := #[] }])
  fields := #[{ name := "value", type := (.array .byte), accessFlags := 18, slot := 0, constantValue := 0 }, { name := "coder", type := .byte, accessFlags := 18, slot := 1, constantValue := 0 }, { name := "hash", type := .int, accessFlags := 2, slot := 2, constantValue := 0 }, { name := "hashIsZero", type := .boolean, accessFlags := 2, slot := 3, constantValue := 0 }, { name := "serialVersionUID", type := .long, accessFlags := 26, slot := 0, constantValue := 0 }, { name := "COMPACT_STRINGS", type := .boolean, accessFlags := 24, slot := 1, constantValue := 0 }, { name := "serialPersistentFields", type := (.array (.object "java/io/ObjectStreamField")), accessFlags := 26, slot := 2, constantValue := 0 }, { name := "REPL", type := .char, accessFlags := 26, slot := 3, constantValue := 0 }, { name := "CASE_INSENSITIVE_ORDER", type := (.object "java/util/Comparator"), accessFlags := 25, slot := 4, constantValue := 0 }, { name := "LATIN1", type := .byte, accessFlags := 24, slot := 5, constantValue := 0 }, { name := "UTF16", type := .byte, accessFlags := 24, slot := 6, constantValue := 0 }]
  methods := #[k7m0, k7m1, k7m2, k7m3, k7m4, k7m5, k7m6, k7m7]
  instanceTypes := #[(.array .byte), .byte, .int, .boolean]
  staticTypes := #[.long, .boolean, (.array (.object "java/io/ObjectStreamField")), .char, (.object "java/util/Comparator"), .byte, .byte]
  resolved := Array.replicate 1451 none
  statics := some 0 }

def pool8 : Array CpInfo := pool [(4, .class_ 6), (1, u "java/lang/Object"), (0, u "<init>"), (0, u "()V"), (5, .class_ 16), (1, u "java/lang/StringLatin1"), (28, .class_ 47), (1, u "jdk/internal/util/ArraysSupport"), (9, u "([B)I"), (26, .methodref 45 85), (0, .nameAndType 86 87), (0, u "vectorizedHashCode"), (0, u "(Ljava/lang/Object;IIII)I"), (2, u "canEncode"), (14, u "(C)Z"), (15, u "$assertionsDisabled"), (0, u "Z"), (98, .class_ 223), (1, u "java/lang/StringLatin1$LinesSpliterator"), (57, u "equals"), (0, u "([B[B)Z"), (15, u "hashCode"), (81, u "toBytes"), (1, u "(C)[B"), (7, .class_ 391), (0, u "java/lang/StringLatin1$CharsSpliterator")] 3

def k8m0 : Method := { name := "<init>", desc := "()V", sig := { parameters := [], returnType := none }, accessFlags := 0, code := none }
def k8c1 : Code := { maxStack := 2, maxLocals := 1, code := jdk_43_method_3_code, exceptionTable := #[], attributes := #[] }
def k8m1 : Method := { name := "canEncode", desc := "(C)Z", sig := { parameters := [.char], returnType := some .boolean }, accessFlags := 9, code := some k8c1 }
def k8c2 : Code := { maxStack := 3, maxLocals := 3, code := jdk_43_method_13_code, exceptionTable := #[], attributes := #[] }
def k8m2 : Method := { name := "equals", desc := "([B[B)Z", sig := { parameters := [(.array .byte), (.array .byte)], returnType := some .boolean }, accessFlags := 9, code := some k8c2 }
def k8c3 : Code := { maxStack := 5, maxLocals := 1, code := jdk_43_method_21_code, exceptionTable := #[], attributes := #[] }
def k8m3 : Method := { name := "hashCode", desc := "([B)I", sig := { parameters := [(.array .byte)], returnType := some .int }, accessFlags := 9, code := some k8c3 }
def k8c4 : Code := { maxStack := 4, maxLocals := 1, code := jdk_43_method_46_code, exceptionTable := #[], attributes := #[] }
def k8m4 : Method := { name := "toBytes", desc := "(C)[B", sig := { parameters := [.char], returnType := some (.array .byte) }, accessFlags := 9, code := some k8c4 }
/-- java/lang/StringLatin1 -/
def k8 : Class := { plain "java/lang/StringLatin1" (some 0) with
  accessFlags := 48
  interfaces := #[]
  cf := some (fileOf pool8 14 #[.nestMembers #[390, 221]] #[{ accessFlags := 0, nameIndex := 7, descriptorIndex := 8, attributes := #[] }, { accessFlags := 9, nameIndex := 90, descriptorIndex := 105, attributes := #[] }, { accessFlags := 9, nameIndex := 281, descriptorIndex := 282, attributes := #[] }, { accessFlags := 9, nameIndex := 298, descriptorIndex := 57, attributes := #[] }, { accessFlags := 9, nameIndex := 380, descriptorIndex := 382, attributes := #[] }] 48 4 #[] #[{ accessFlags := 4120, nameIndex := 121, descriptorIndex := 122, attributes := #[] }])
  fields := #[{ name := "$assertionsDisabled", type := .boolean, accessFlags := 4120, slot := 0, constantValue := 0 }]
  methods := #[k8m0, k8m1, k8m2, k8m3, k8m4]
  instanceTypes := #[]
  staticTypes := #[.boolean]
  resolved := Array.replicate 395 none
  statics := none }

def pool9 : Array CpInfo := pool [(1, .methodref 2 3), (0, .class_ 4), (0, .nameAndType 5 6), (0, u "java/lang/Object"), (0, u "<init>"), (0, u "()V"), (0, .class_ 8), (0, u "com/example/ratable/ratable/core/Posted$Sums"), (0, .methodref 7 10), (0, .nameAndType 5 11), (0, u "(I)V"), (0, .fieldref 13 14), (0, .class_ 15), (0, .nameAndType 16 17), (0, u "com/example/ratable/ratable/core/Posted"), (0, u "balances"), (0, u "Lcom/example/ratable/ratable/core/Posted$Sums;"), (0, .fieldref 13 19), (0, .nameAndType 20 17), (0, u "invoices"), (0, .fieldref 13 22), (0, .nameAndType 23 24), (0, u "id"), (0, u "Ljava/lang/String;"), (0, .methodref 26 27), (0, .class_ 28), (0, .nameAndType 29 30), (0, u "com/example/ratable/ratable/core/PostedById"), (0, u "hash"), (0, u "(Ljava/lang/String;)I"), (0, .fieldref 13 32), (0, .nameAndType 29 33), (0, u "I"), (24, u "opened"), (0, u "Ljava/time/LocalDate;"), (79, u "(Ljava/lang/String;)V"), (209, u "NONE"), (0, u "Lcom/example/ratable/ratable/core/Posted;"), (0, u "chained")] 72

def k9c0 : Code := { maxStack := 4, maxLocals := 2, code := prog_62_method_1_code, exceptionTable := #[], attributes := #[] }
def k9m0 : Method := { name := "<init>", desc := "(Ljava/lang/String;)V", sig := { parameters := [(.object "java/lang/String")], returnType := none }, accessFlags := 0, code := some k9c0 }
/-- com/example/ratable/ratable/core/Posted -/
def k9 : Class := { plain "com/example/ratable/ratable/core/Posted" (some 0) with
  accessFlags := 32
  interfaces := #[]
  cf := some (fileOf pool9 13 #[.nestMembers #[7]] #[{ accessFlags := 0, nameIndex := 5, descriptorIndex := 139, attributes := #[] }] 32 2 #[] #[{ accessFlags := 24, nameIndex := 349, descriptorIndex := 350, attributes := #[] }, { accessFlags := 16, nameIndex := 23, descriptorIndex := 24, attributes := #[] }, { accessFlags := 16, nameIndex := 29, descriptorIndex := 33, attributes := #[] }, { accessFlags := 0, nameIndex := 351, descriptorIndex := 350, attributes := #[] }, { accessFlags := 2, nameIndex := 58, descriptorIndex := 59, attributes := #[] }, { accessFlags := 18, nameIndex := 16, descriptorIndex := 17, attributes := #[] }, { accessFlags := 18, nameIndex := 20, descriptorIndex := 17, attributes := #[] }])
  fields := #[{ name := "NONE", type := (.object "com/example/ratable/ratable/core/Posted"), accessFlags := 24, slot := 0, constantValue := 0 }, { name := "id", type := (.object "java/lang/String"), accessFlags := 16, slot := 0, constantValue := 0 }, { name := "hash", type := .int, accessFlags := 16, slot := 1, constantValue := 0 }, { name := "chained", type := (.object "com/example/ratable/ratable/core/Posted"), accessFlags := 0, slot := 2, constantValue := 0 }, { name := "opened", type := (.object "java/time/LocalDate"), accessFlags := 2, slot := 3, constantValue := 0 }, { name := "balances", type := (.object "com/example/ratable/ratable/core/Posted$Sums"), accessFlags := 18, slot := 4, constantValue := 0 }, { name := "invoices", type := (.object "com/example/ratable/ratable/core/Posted$Sums"), accessFlags := 18, slot := 5, constantValue := 0 }]
  methods := #[k9m0]
  instanceTypes := #[(.object "java/lang/String"), .int, (.object "com/example/ratable/ratable/core/Posted"), (.object "java/time/LocalDate"), (.object "com/example/ratable/ratable/core/Posted$Sums"), (.object "com/example/ratable/ratable/core/Posted$Sums")]
  staticTypes := #[(.object "com/example/ratable/ratable/core/Posted")]
  resolved := Array.replicate 424 none
  statics := none }

def pool10 : Array CpInfo := pool [(1, .methodref 2 3), (0, .class_ 4), (0, .nameAndType 5 6), (0, u "java/lang/Object"), (0, u "<init>"), (0, u "()V"), (0, .class_ 8), (0, u "com/example/ratable/ratable/core/PostedById"), (0, .class_ 10), (0, u "com/example/ratable/ratable/core/Posted"), (0, .fieldref 7 12), (0, .nameAndType 13 14), (0, u "buckets"), (0, u "[Lcom/example/ratable/ratable/core/Posted;"), (0, .fieldref 7 16), (0, .nameAndType 17 14), (0, u "inOrder"), (0, .fieldref 7 19), (0, .nameAndType 20 21), (0, u "size"), (0, u "I"), (0, .methodref 7 23), (0, .nameAndType 24 25), (0, u "hash"), (0, u "(Ljava/lang/String;)I"), (0, .fieldref 9 27), (0, .nameAndType 24 21), (0, .fieldref 9 29), (0, .nameAndType 30 31), (0, u "id"), (0, u "Ljava/lang/String;"), (0, .methodref 33 34), (0, .class_ 35), (0, .nameAndType 36 37), (0, u "java/lang/String"), (0, u "equals"), (0, u "(Ljava/lang/Object;)Z"), (0, .fieldref 9 39), (0, .nameAndType 40 41), (0, u "chained"), (0, u "Lcom/example/ratable/ratable/core/Posted;"), (0, .methodref 7 43), (0, .nameAndType 44 45), (0, u "get"), (0, u "(Ljava/lang/String;)Lcom/example/ratable/ratable/core/Posted;"), (0, .methodref 9 47), (0, .nameAndType 5 48), (0, u "(Ljava/lang/String;)V"), (0, .methodref 7 50), (0, .nameAndType 51 52), (0, u "put"), (0, u "(Lcom/example/ratable/ratable/core/Posted;)V"), (0, .methodref 54 55), (0, .class_ 56), (0, .nameAndType 57 58), (0, u "java/util/Objects"), (0, u "checkIndex"), (0, u "(II)I"), (20, .methodref 7 80), (0, .nameAndType 81 82), (0, u "chain"), (0, u "(Lcom/example/ratable/ratable/core/Posted;[Lcom/example/ratable/ratable/core/Posted;)V"), (0, .methodref 33 84), (0, .nameAndType 85 86), (0, u "hashCode"), (0, u "()I"), (0, u "FIRST_BUCKETS"), (5, u "open"), (2, u "at"), (0, u "(I)Lcom/example/ratable/ratable/core/Posted;")] 6

def k10c0 : Code := { maxStack := 2, maxLocals := 1, code := prog_64_method_1_code, exceptionTable := #[], attributes := #[] }
def k10m0 : Method := { name := "<init>", desc := "()V", sig := { parameters := [], returnType := none }, accessFlags := 0, code := some k10c0 }
def k10c1 : Code := { maxStack := 1, maxLocals := 1, code := prog_64_method_2_code, exceptionTable := #[], attributes := #[] }
def k10m1 : Method := { name := "size", desc := "()I", sig := { parameters := [], returnType := some .int }, accessFlags := 0, code := some k10c1 }
def k10c2 : Code := { maxStack := 4, maxLocals := 4, code := prog_64_method_3_code, exceptionTable := #[], attributes := #[] }
def k10m2 : Method := { name := "get", desc := "(Ljava/lang/String;)Lcom/example/ratable/ratable/core/Posted;", sig := { parameters := [(.object "java/lang/String")], returnType := some (.object "com/example/ratable/ratable/core/Posted") }, accessFlags := 0, code := some k10c2 }
def k10c3 : Code := { maxStack := 3, maxLocals := 3, code := prog_64_method_4_code, exceptionTable := #[], attributes := #[] }
def k10m3 : Method := { name := "open", desc := "(Ljava/lang/String;)Lcom/example/ratable/ratable/core/Posted;", sig := { parameters := [(.object "java/lang/String")], returnType := some (.object "com/example/ratable/ratable/core/Posted") }, accessFlags := 0, code := some k10c3 }
def k10c4 : Code := { maxStack := 2, maxLocals := 2, code := prog_64_method_6_code, exceptionTable := #[], attributes := #[] }
def k10m4 : Method := { name := "at", desc := "(I)Lcom/example/ratable/ratable/core/Posted;", sig := { parameters := [.int], returnType := some (.object "com/example/ratable/ratable/core/Posted") }, accessFlags := 0, code := some k10c4 }
def k10c5 : Code := { maxStack := 5, maxLocals := 2, code := prog_64_method_8_code, exceptionTable := #[], attributes := #[] }
def k10m5 : Method := { name := "put", desc := "(Lcom/example/ratable/ratable/core/Posted;)V", sig := { parameters := [(.object "com/example/ratable/ratable/core/Posted")], returnType := none }, accessFlags := 2, code := some k10c5 }
def k10c6 : Code := { maxStack := 3, maxLocals := 3, code := prog_64_method_10_code, exceptionTable := #[], attributes := #[] }
def k10m6 : Method := { name := "chain", desc := "(Lcom/example/ratable/ratable/core/Posted;[Lcom/example/ratable/ratable/core/Posted;)V", sig := { parameters := [(.object "com/example/ratable/ratable/core/Posted"), (.array (.object "com/example/ratable/ratable/core/Posted"))], returnType := none }, accessFlags := 10, code := some k10c6 }
def k10c7 : Code := { maxStack := 3, maxLocals := 2, code := prog_64_method_11_code, exceptionTable := #[], attributes := #[] }
def k10m7 : Method := { name := "hash", desc := "(Ljava/lang/String;)I", sig := { parameters := [(.object "java/lang/String")], returnType := some .int }, accessFlags := 8, code := some k10c7 }
/-- com/example/ratable/ratable/core/PostedById -/
def k10 : Class := { plain "com/example/ratable/ratable/core/PostedById" (some 0) with
  accessFlags := 32
  interfaces := #[]
  cf := some (fileOf pool10 7 #[] #[{ accessFlags := 0, nameIndex := 5, descriptorIndex := 6, attributes := #[] }, { accessFlags := 0, nameIndex := 20, descriptorIndex := 86, attributes := #[] }, { accessFlags := 0, nameIndex := 44, descriptorIndex := 45, attributes := #[] }, { accessFlags := 0, nameIndex := 93, descriptorIndex := 45, attributes := #[] }, { accessFlags := 0, nameIndex := 96, descriptorIndex := 97, attributes := #[] }, { accessFlags := 2, nameIndex := 51, descriptorIndex := 52, attributes := #[] }, { accessFlags := 10, nameIndex := 81, descriptorIndex := 82, attributes := #[] }, { accessFlags := 8, nameIndex := 24, descriptorIndex := 25, attributes := #[] }] 32 2 #[] #[{ accessFlags := 26, nameIndex := 87, descriptorIndex := 21, attributes := #[] }, { accessFlags := 2, nameIndex := 13, descriptorIndex := 14, attributes := #[] }, { accessFlags := 2, nameIndex := 17, descriptorIndex := 14, attributes := #[] }, { accessFlags := 2, nameIndex := 20, descriptorIndex := 21, attributes := #[] }])
  fields := #[{ name := "FIRST_BUCKETS", type := .int, accessFlags := 26, slot := 0, constantValue := 0 }, { name := "buckets", type := (.array (.object "com/example/ratable/ratable/core/Posted")), accessFlags := 2, slot := 0, constantValue := 0 }, { name := "inOrder", type := (.array (.object "com/example/ratable/ratable/core/Posted")), accessFlags := 2, slot := 1, constantValue := 0 }, { name := "size", type := .int, accessFlags := 2, slot := 2, constantValue := 0 }]
  methods := #[k10m0, k10m1, k10m2, k10m3, k10m4, k10m5, k10m6, k10m7]
  instanceTypes := #[(.array (.object "com/example/ratable/ratable/core/Posted")), (.array (.object "com/example/ratable/ratable/core/Posted")), .int]
  staticTypes := #[.int]
  resolved := Array.replicate 104 none
  statics := none }

def pool11 : Array CpInfo := pool [(1, .methodref 2 3), (0, .class_ 4), (0, .nameAndType 5 6), (0, u "java/lang/Object"), (0, u "<init>"), (0, u "()V"), (0, .fieldref 8 9), (0, .class_ 10), (0, .nameAndType 11 12), (0, u "com/example/ratable/ratable/core/Posted$Sums"), (0, u "keys"), (0, u "[Ljava/lang/Object;"), (0, .fieldref 8 14), (0, .nameAndType 15 16), (0, u "units"), (0, u "[J"), (0, .class_ 18), (0, u "java/time/LocalDate"), (0, .fieldref 8 20), (0, .nameAndType 21 22), (0, u "opened"), (0, u "[Ljava/time/LocalDate;"), (55, u "size"), (0, u "I"), (12, u "byName"), (0, u "Ljava/util/Map;"), (47, u "UNINDEXED"), (4, u "(I)V"), (17, .class_ 165), (0, u "com/example/ratable/ratable/core/Posted")] 2

def k11c0 : Code := { maxStack := 3, maxLocals := 2, code := prog_63_method_1_code, exceptionTable := #[], attributes := #[] }
def k11m0 : Method := { name := "<init>", desc := "(I)V", sig := { parameters := [.int], returnType := none }, accessFlags := 0, code := some k11c0 }
/-- com/example/ratable/ratable/core/Posted$Sums -/
def k11 : Class := { plain "com/example/ratable/ratable/core/Posted$Sums" (some 0) with
  accessFlags := 32
  interfaces := #[]
  cf := some (fileOf pool11 8 #[.nestHost 164] #[{ accessFlags := 0, nameIndex := 5, descriptorIndex := 146, attributes := #[] }] 32 2 #[] #[{ accessFlags := 26, nameIndex := 141, descriptorIndex := 79, attributes := #[] }, { accessFlags := 2, nameIndex := 11, descriptorIndex := 12, attributes := #[] }, { accessFlags := 2, nameIndex := 15, descriptorIndex := 16, attributes := #[] }, { accessFlags := 2, nameIndex := 21, descriptorIndex := 22, attributes := #[] }, { accessFlags := 2, nameIndex := 78, descriptorIndex := 79, attributes := #[] }, { accessFlags := 2, nameIndex := 92, descriptorIndex := 93, attributes := #[] }])
  fields := #[{ name := "UNINDEXED", type := .int, accessFlags := 26, slot := 0, constantValue := 0 }, { name := "keys", type := (.array (.object "java/lang/Object")), accessFlags := 2, slot := 0, constantValue := 0 }, { name := "units", type := (.array .long), accessFlags := 2, slot := 1, constantValue := 0 }, { name := "opened", type := (.array (.object "java/time/LocalDate")), accessFlags := 2, slot := 2, constantValue := 0 }, { name := "size", type := .int, accessFlags := 2, slot := 3, constantValue := 0 }, { name := "byName", type := (.object "java/util/Map"), accessFlags := 2, slot := 4, constantValue := 0 }]
  methods := #[k11m0]
  instanceTypes := #[(.array (.object "java/lang/Object")), (.array .long), (.array (.object "java/time/LocalDate")), .int, (.object "java/util/Map")]
  staticTypes := #[.int]
  resolved := Array.replicate 168 none
  statics := none }

def pool12 : Array CpInfo := pool [(4, .class_ 6), (1, u "java/time/temporal/TemporalAccessor"), (95, .class_ 103), (0, u "java/lang/Object")] 21

/-- java/time/temporal/TemporalAccessor -/
def k12 : Class := { plain "java/time/temporal/TemporalAccessor" (some 0) with
  accessFlags := 1537
  interfaces := #[]
  cf := some (fileOf pool12 4 #[] #[] 1537 102 #[] #[])
  fields := #[]
  methods := #[]
  instanceTypes := #[]
  staticTypes := #[]
  resolved := Array.replicate 125 none
  statics := none }

def pool13 : Array CpInfo := pool [(22, .class_ 24), (1, u "java/time/temporal/Temporal"), (2, .class_ 28), (0, u "java/lang/Object"), (0, .class_ 30), (0, u "java/time/temporal/TemporalAccessor")] 25

/-- java/time/temporal/Temporal -/
def k13 : Class := { plain "java/time/temporal/Temporal" (some 0) with
  accessFlags := 1537
  interfaces := #[12]
  cf := some (fileOf pool13 22 #[] #[] 1537 27 #[29] #[])
  fields := #[]
  methods := #[]
  instanceTypes := #[]
  staticTypes := #[]
  resolved := Array.replicate 56 none
  statics := none }

def pool14 : Array CpInfo := pool [(1, .class_ 2), (0, u "java/time/temporal/TemporalAdjuster"), (0, .class_ 4), (0, u "java/lang/Object")] 6

/-- java/time/temporal/TemporalAdjuster -/
def k14 : Class := { plain "java/time/temporal/TemporalAdjuster" (some 0) with
  accessFlags := 1537
  interfaces := #[]
  cf := some (fileOf pool14 1 #[] #[] 1537 3 #[] #[])
  fields := #[]
  methods := #[]
  instanceTypes := #[]
  staticTypes := #[]
  resolved := Array.replicate 11 none
  statics := none }

def pool15 : Array CpInfo := pool [(9, .class_ 10), (0, u "java/time/chrono/ChronoLocalDate"), (104, .class_ 117), (1, u "java/time/temporal/Temporal"), (134, .class_ 253), (0, u "java/lang/Object"), (23, .class_ 278), (0, u "java/time/temporal/TemporalAdjuster"), (0, .class_ 280), (0, u "java/lang/Comparable")] 86

/-- java/time/chrono/ChronoLocalDate -/
def k15 : Class := { plain "java/time/chrono/ChronoLocalDate" (some 0) with
  accessFlags := 1537
  interfaces := #[13, 14, 3]
  cf := some (fileOf pool15 9 #[] #[] 1537 252 #[115, 277, 279] #[])
  fields := #[]
  methods := #[]
  instanceTypes := #[]
  staticTypes := #[]
  resolved := Array.replicate 367 none
  statics := none }

def pool16 : Array CpInfo := pool [(1, .class_ 2), (0, u "java/time/LocalDate"), (47, u "month"), (193, .class_ 245), (0, u "java/lang/Object"), (2, u "year"), (0, u "I"), (2, u "S"), (2, u "day"), (1, .class_ 259), (1, u "java/time/chrono/ChronoLocalDate"), (10, .class_ 272), (1, u "java/time/LocalDate$1"), (107, .class_ 382), (1, u "java/time/temporal/TemporalAdjuster"), (205, u "MAX"), (0, u "Ljava/time/LocalDate;"), (2, u "MIN"), (176, u "EPOCH"), (0, .class_ 771), (0, u "java/time/temporal/Temporal"), (0, .class_ 773), (0, u "java/io/Serializable"), (0, u "serialVersionUID"), (0, u "J"), (3, u "DAYS_PER_CYCLE"), (1, u "DAYS_0000_TO_1970")] 206

/-- java/time/LocalDate -/
def k16 : Class := { plain "java/time/LocalDate" (some 0) with
  accessFlags := 49
  interfaces := #[13, 14, 15, 2]
  cf := some (fileOf pool16 1 #[.nestMembers #[270]] #[] 49 244 #[770, 380, 257, 772] #[{ accessFlags := 25, nameIndex := 592, descriptorIndex := 589, attributes := #[] }, { accessFlags := 25, nameIndex := 588, descriptorIndex := 589, attributes := #[] }, { accessFlags := 25, nameIndex := 769, descriptorIndex := 589, attributes := #[] }, { accessFlags := 26, nameIndex := 774, descriptorIndex := 775, attributes := #[] }, { accessFlags := 26, nameIndex := 779, descriptorIndex := 249, attributes := #[] }, { accessFlags := 24, nameIndex := 781, descriptorIndex := 775, attributes := #[] }, { accessFlags := 18, nameIndex := 248, descriptorIndex := 249, attributes := #[] }, { accessFlags := 18, nameIndex := 50, descriptorIndex := 252, attributes := #[] }, { accessFlags := 18, nameIndex := 255, descriptorIndex := 252, attributes := #[] }])
  fields := #[{ name := "MIN", type := (.object "java/time/LocalDate"), accessFlags := 25, slot := 0, constantValue := 0 }, { name := "MAX", type := (.object "java/time/LocalDate"), accessFlags := 25, slot := 1, constantValue := 0 }, { name := "EPOCH", type := (.object "java/time/LocalDate"), accessFlags := 25, slot := 2, constantValue := 0 }, { name := "serialVersionUID", type := .long, accessFlags := 26, slot := 3, constantValue := 0 }, { name := "DAYS_PER_CYCLE", type := .int, accessFlags := 26, slot := 4, constantValue := 0 }, { name := "DAYS_0000_TO_1970", type := .long, accessFlags := 24, slot := 5, constantValue := 0 }, { name := "year", type := .int, accessFlags := 18, slot := 0, constantValue := 0 }, { name := "month", type := .short, accessFlags := 18, slot := 1, constantValue := 0 }, { name := "day", type := .short, accessFlags := 18, slot := 2, constantValue := 0 }]
  methods := #[]
  instanceTypes := #[.int, .short, .short]
  staticTypes := #[(.object "java/time/LocalDate"), (.object "java/time/LocalDate"), (.object "java/time/LocalDate"), .long, .int, .long]
  resolved := Array.replicate 988 none
  statics := none }

def pool17 : Array CpInfo := pool [(2, .class_ 4), (1, u "java/lang/Object"), (0, u "<init>"), (0, u "()V"), (35, .class_ 44), (1, u "java/util/Objects"), (60, .methodref 106 107), (0, .class_ 108), (0, .nameAndType 109 110), (0, u "jdk/internal/util/Preconditions"), (0, u "checkIndex"), (0, u "(IILjava/util/function/BiFunction;)I"), (60, u "(II)I")] 12

def k17m0 : Method := { name := "<init>", desc := "()V", sig := { parameters := [], returnType := none }, accessFlags := 2, code := none }
def k17c1 : Code := { maxStack := 3, maxLocals := 2, code := jdk_31_method_17_code, exceptionTable := #[], attributes := #[] }
def k17m1 : Method := { name := "checkIndex", desc := "(II)I", sig := { parameters := [.int, .int], returnType := some .int }, accessFlags := 9, code := some k17c1 }
/-- java/util/Objects -/
def k17 : Class := { plain "java/util/Objects" (some 0) with
  accessFlags := 49
  interfaces := #[]
  cf := some (fileOf pool17 42 #[] #[{ accessFlags := 2, nameIndex := 5, descriptorIndex := 6, attributes := #[] }, { accessFlags := 9, nameIndex := 109, descriptorIndex := 171, attributes := #[] }] 49 2 #[] #[])
  fields := #[]
  methods := #[k17m0, k17m1]
  instanceTypes := #[]
  staticTypes := #[]
  resolved := Array.replicate 184 none
  statics := none }

def pool18 : Array CpInfo := pool [(2, .class_ 4), (1, u "java/lang/Object"), (0, u "<init>"), (0, u "()V"), (17, .class_ 26), (1, u "jdk/internal/util/Preconditions"), (6, u "checkIndex"), (21, .class_ 56), (0, u "jdk/internal/util/Preconditions$4"), (57, .class_ 115), (0, u "jdk/internal/util/Preconditions$1"), (7, u "SIOOBE_FORMATTER"), (0, u "Ljava/util/function/BiFunction;"), (0, .class_ 126), (0, u "jdk/internal/util/Preconditions$2"), (3, u "AIOOBE_FORMATTER"), (0, .class_ 132), (0, u "jdk/internal/util/Preconditions$3"), (3, u "IOOBE_FORMATTER"), (41, u "(IILjava/util/function/BiFunction;)I")] 15

def k18m0 : Method := { name := "<init>", desc := "()V", sig := { parameters := [], returnType := none }, accessFlags := 1, code := none }
def k18c1 : Code := { maxStack := 3, maxLocals := 3, code := jdk_41_method_11_code, exceptionTable := #[], attributes := #[] }
def k18m1 : Method := { name := "checkIndex", desc := "(IILjava/util/function/BiFunction;)I", sig := { parameters := [.int, .int, (.object "java/util/function/BiFunction")], returnType := some .int }, accessFlags := 9, code := some k18c1 }
/-- jdk/internal/util/Preconditions -/
def k18 : Class := { plain "jdk/internal/util/Preconditions" (some 0) with
  accessFlags := 33
  interfaces := #[]
  cf := some (fileOf pool18 24 #[.nestMembers #[55, 131, 125, 114]] #[{ accessFlags := 1, nameIndex := 5, descriptorIndex := 6, attributes := #[] }, { accessFlags := 9, nameIndex := 33, descriptorIndex := 178, attributes := #[] }] 33 2 #[] #[{ accessFlags := 25, nameIndex := 123, descriptorIndex := 124, attributes := #[] }, { accessFlags := 25, nameIndex := 130, descriptorIndex := 124, attributes := #[] }, { accessFlags := 25, nameIndex := 136, descriptorIndex := 124, attributes := #[] }])
  fields := #[{ name := "SIOOBE_FORMATTER", type := (.object "java/util/function/BiFunction"), accessFlags := 25, slot := 0, constantValue := 0 }, { name := "AIOOBE_FORMATTER", type := (.object "java/util/function/BiFunction"), accessFlags := 25, slot := 1, constantValue := 0 }, { name := "IOOBE_FORMATTER", type := (.object "java/util/function/BiFunction"), accessFlags := 25, slot := 2, constantValue := 0 }]
  methods := #[k18m0, k18m1]
  instanceTypes := #[]
  staticTypes := #[(.object "java/util/function/BiFunction"), (.object "java/util/function/BiFunction"), (.object "java/util/function/BiFunction")]
  resolved := Array.replicate 194 none
  statics := some 1 }

def pool19 : Array CpInfo := pool [(6, .class_ 8), (1, u "java/lang/Object"), (0, u "<init>"), (0, u "()V"), (1, .class_ 14), (1, u "java/lang/StringUTF16"), (31, u "$assertionsDisabled"), (0, u "Z"), (13, u "HI_BYTE_SHIFT"), (0, u "I"), (2, u "LO_BYTE_SHIFT"), (49, .methodref 12 116), (0, .nameAndType 117 118), (0, u "compress"), (0, u "([CI[BII)I"), (3, u "([CII)[B"), (138, u "coderFromArrayLen"), (0, u "([BI)B"), (106, .class_ 371), (1, u "java/lang/StringUTF16$LinesSpliterator"), (58, u "MAX_LENGTH"), (196, .class_ 628), (0, u "java/lang/StringUTF16$CodePointsSpliterator"), (0, .class_ 630), (0, u "java/lang/StringUTF16$CharsSpliterator")] 4

def k19m0 : Method := { name := "<init>", desc := "()V", sig := { parameters := [], returnType := none }, accessFlags := 0, code := none }
def k19c1 : Code := { maxStack := 2, maxLocals := 2, code := jdk_52_method_15_code, exceptionTable := #[], attributes := #[] }
def k19m1 : Method := { name := "coderFromArrayLen", desc := "([BI)B", sig := { parameters := [(.array .byte), .int], returnType := some .byte }, accessFlags := 8, code := some k19c1 }
def k19c2 : Code := { maxStack := 5, maxLocals := 6, code := jdk_52_method_16_code, exceptionTable := #[], attributes := #[] }
def k19m2 : Method := { name := "compress", desc := "([CII)[B", sig := { parameters := [(.array .char), .int, .int], returnType := some (.array .byte) }, accessFlags := 9, code := some k19c2 }
def k19c3 : Code := { maxStack := 3, maxLocals := 7, code := jdk_52_method_21_code, exceptionTable := #[], attributes := #[] }
def k19m3 : Method := { name := "compress", desc := "([CI[BII)I", sig := { parameters := [(.array .char), .int, (.array .byte), .int, .int], returnType := some .int }, accessFlags := 9, code := some k19c3 }
/-- java/lang/StringUTF16 -/
def k19 : Class := { plain "java/lang/StringUTF16" (some 0) with
  accessFlags := 48
  interfaces := #[]
  cf := some (fileOf pool19 12 #[.nestMembers #[627, 629, 369]] #[{ accessFlags := 0, nameIndex := 9, descriptorIndex := 10, attributes := #[] }, { accessFlags := 8, nameIndex := 261, descriptorIndex := 262, attributes := #[] }, { accessFlags := 9, nameIndex := 117, descriptorIndex := 122, attributes := #[] }, { accessFlags := 9, nameIndex := 117, descriptorIndex := 118, attributes := #[] }] 48 6 #[] #[{ accessFlags := 26, nameIndex := 61, descriptorIndex := 62, attributes := #[] }, { accessFlags := 26, nameIndex := 65, descriptorIndex := 62, attributes := #[] }, { accessFlags := 24, nameIndex := 430, descriptorIndex := 62, attributes := #[] }, { accessFlags := 4120, nameIndex := 46, descriptorIndex := 47, attributes := #[] }])
  fields := #[{ name := "HI_BYTE_SHIFT", type := .int, accessFlags := 26, slot := 0, constantValue := 0 }, { name := "LO_BYTE_SHIFT", type := .int, accessFlags := 26, slot := 1, constantValue := 0 }, { name := "MAX_LENGTH", type := .int, accessFlags := 24, slot := 2, constantValue := 0 }, { name := "$assertionsDisabled", type := .boolean, accessFlags := 4120, slot := 3, constantValue := 0 }]
  methods := #[k19m0, k19m1, k19m2, k19m3]
  instanceTypes := #[]
  staticTypes := #[.int, .int, .int, .boolean]
  resolved := Array.replicate 635 none
  statics := none }

def pool20 : Array CpInfo := pool [(9, u "<init>"), (6, .class_ 18), (1, u "java/lang/Object"), (0, u "()V"), (1, .class_ 23), (1, u "jdk/internal/util/ArraysSupport"), (0, u "LOG2_ARRAY_LONG_INDEX_SCALE"), (0, u "I"), (2, u "U"), (0, u "Ljdk/internal/misc/Unsafe;"), (8, u "BIG_ENDIAN"), (0, u "Z"), (8, u "LOG2_BYTE_BIT_SIZE"), (4, u "LOG2_ARRAY_INT_INDEX_SCALE"), (6, .class_ 61), (0, u "[B"), (0, .methodref 21 63), (0, .nameAndType 64 65), (0, u "signedHashCode"), (0, u "(I[BII)I"), (42, u "JLA"), (0, u "Ljdk/internal/access/JavaLangAccess;"), (11, u "LOG2_ARRAY_BOOLEAN_INDEX_SCALE"), (9, u "LOG2_ARRAY_BYTE_INDEX_SCALE"), (5, u "LOG2_ARRAY_CHAR_INDEX_SCALE"), (5, u "LOG2_ARRAY_SHORT_INDEX_SCALE"), (18, u "LOG2_ARRAY_FLOAT_INDEX_SCALE"), (24, u "LOG2_ARRAY_DOUBLE_INDEX_SCALE"), (89, u "T_BOOLEAN"), (2, u "T_CHAR"), (1, u "T_FLOAT"), (1, u "T_DOUBLE"), (1, u "T_BYTE"), (1, u "T_SHORT"), (1, u "T_INT"), (1, u "T_LONG"), (1, u "SOFT_MAX_ARRAY_LENGTH"), (26, u "vectorizedHashCode"), (0, u "(Ljava/lang/Object;IIII)I")] 55

def k20m0 : Method := { name := "<init>", desc := "()V", sig := { parameters := [], returnType := none }, accessFlags := 2, code := none }
def k20c1 : Code := { maxStack := 4, maxLocals := 5, code := jdk_48_method_4_code, exceptionTable := #[], attributes := #[] }
def k20m1 : Method := { name := "vectorizedHashCode", desc := "(Ljava/lang/Object;IIII)I", sig := { parameters := [(.object "java/lang/Object"), .int, .int, .int, .int], returnType := some .int }, accessFlags := 9, code := some k20c1 }
def k20c2 : Code := { maxStack := 3, maxLocals := 6, code := jdk_48_method_5_code, exceptionTable := #[], attributes := #[] }
def k20m2 : Method := { name := "signedHashCode", desc := "(I[BII)I", sig := { parameters := [.int, (.array .byte), .int, .int], returnType := some .int }, accessFlags := 10, code := some k20c2 }
/-- jdk/internal/util/ArraysSupport -/
def k20 : Class := { plain "jdk/internal/util/ArraysSupport" (some 0) with
  accessFlags := 33
  interfaces := #[]
  cf := some (fileOf pool20 21 #[] #[{ accessFlags := 2, nameIndex := 9, descriptorIndex := 19, attributes := #[] }, { accessFlags := 9, nameIndex := 321, descriptorIndex := 322, attributes := #[] }, { accessFlags := 10, nameIndex := 64, descriptorIndex := 65, attributes := #[] }] 33 16 #[] #[{ accessFlags := 24, nameIndex := 28, descriptorIndex := 29, attributes := #[] }, { accessFlags := 26, nameIndex := 38, descriptorIndex := 39, attributes := #[] }, { accessFlags := 25, nameIndex := 121, descriptorIndex := 25, attributes := #[] }, { accessFlags := 25, nameIndex := 131, descriptorIndex := 25, attributes := #[] }, { accessFlags := 25, nameIndex := 137, descriptorIndex := 25, attributes := #[] }, { accessFlags := 25, nameIndex := 143, descriptorIndex := 25, attributes := #[] }, { accessFlags := 25, nameIndex := 53, descriptorIndex := 25, attributes := #[] }, { accessFlags := 25, nameIndex := 24, descriptorIndex := 25, attributes := #[] }, { accessFlags := 25, nameIndex := 162, descriptorIndex := 25, attributes := #[] }, { accessFlags := 25, nameIndex := 187, descriptorIndex := 25, attributes := #[] }, { accessFlags := 26, nameIndex := 48, descriptorIndex := 25, attributes := #[] }, { accessFlags := 25, nameIndex := 277, descriptorIndex := 25, attributes := #[] }, { accessFlags := 25, nameIndex := 280, descriptorIndex := 25, attributes := #[] }, { accessFlags := 25, nameIndex := 282, descriptorIndex := 25, attributes := #[] }, { accessFlags := 25, nameIndex := 284, descriptorIndex := 25, attributes := #[] }, { accessFlags := 25, nameIndex := 286, descriptorIndex := 25, attributes := #[] }, { accessFlags := 25, nameIndex := 288, descriptorIndex := 25, attributes := #[] }, { accessFlags := 25, nameIndex := 290, descriptorIndex := 25, attributes := #[] }, { accessFlags := 25, nameIndex := 292, descriptorIndex := 25, attributes := #[] }, { accessFlags := 26, nameIndex := 108, descriptorIndex := 109, attributes := #[] }, { accessFlags := 25, nameIndex := 294, descriptorIndex := 25, attributes := #[] }])
  fields := #[{ name := "U", type := (.object "jdk/internal/misc/Unsafe"), accessFlags := 24, slot := 0, constantValue := 0 }, { name := "BIG_ENDIAN", type := .boolean, accessFlags := 26, slot := 1, constantValue := 0 }, { name := "LOG2_ARRAY_BOOLEAN_INDEX_SCALE", type := .int, accessFlags := 25, slot := 2, constantValue := 0 }, { name := "LOG2_ARRAY_BYTE_INDEX_SCALE", type := .int, accessFlags := 25, slot := 3, constantValue := 0 }, { name := "LOG2_ARRAY_CHAR_INDEX_SCALE", type := .int, accessFlags := 25, slot := 4, constantValue := 0 }, { name := "LOG2_ARRAY_SHORT_INDEX_SCALE", type := .int, accessFlags := 25, slot := 5, constantValue := 0 }, { name := "LOG2_ARRAY_INT_INDEX_SCALE", type := .int, accessFlags := 25, slot := 6, constantValue := 0 }, { name := "LOG2_ARRAY_LONG_INDEX_SCALE", type := .int, accessFlags := 25, slot := 7, constantValue := 0 }, { name := "LOG2_ARRAY_FLOAT_INDEX_SCALE", type := .int, accessFlags := 25, slot := 8, constantValue := 0 }, { name := "LOG2_ARRAY_DOUBLE_INDEX_SCALE", type := .int, accessFlags := 25, slot := 9, constantValue := 0 }, { name := "LOG2_BYTE_BIT_SIZE", type := .int, accessFlags := 26, slot := 10, constantValue := 0 }, { name := "T_BOOLEAN", type := .int, accessFlags := 25, slot := 11, constantValue := 0 }, { name := "T_CHAR", type := .int, accessFlags := 25, slot := 12, constantValue := 0 }, { name := "T_FLOAT", type := .int, accessFlags := 25, slot := 13, constantValue := 0 }, { name := "T_DOUBLE", type := .int, accessFlags := 25, slot := 14, constantValue := 0 }, { name := "T_BYTE", type := .int, accessFlags := 25, slot := 15, constantValue := 0 }, { name := "T_SHORT", type := .int, accessFlags := 25, slot := 16, constantValue := 0 }, { name := "T_INT", type := .int, accessFlags := 25, slot := 17, constantValue := 0 }, { name := "T_LONG", type := .int, accessFlags := 25, slot := 18, constantValue := 0 }, { name := "JLA", type := (.object "jdk/internal/access/JavaLangAccess"), accessFlags := 26, slot := 19, constantValue := 0 }, { name := "SOFT_MAX_ARRAY_LENGTH", type := .int, accessFlags := 25, slot := 20, constantValue := 0 }]
  methods := #[k20m0, k20m1, k20m2]
  instanceTypes := #[]
  staticTypes := #[(.object "jdk/internal/misc/Unsafe"), .boolean, .int, .int, .int, .int, .int, .int, .int, .int, .int, .int, .int, .int, .int, .int, .int, .int, .int, (.object "jdk/internal/access/JavaLangAccess"), .int]
  resolved := Array.replicate 378 none
  statics := none }

def pool21 : Array CpInfo := pool [(1, u "java/lang/Cloneable"), (0, .class_ 1), (0, u "java/lang/Object"), (0, .class_ 3)] 3

/-- java/lang/Cloneable -/
def k21 : Class := { plain "java/lang/Cloneable" (some 0) with
  accessFlags := 1537
  interfaces := #[]
  cf := some (fileOf pool21 2 #[] #[] 1537 4 #[] #[])
  fields := #[]
  methods := #[]
  instanceTypes := #[]
  staticTypes := #[]
  resolved := Array.replicate 8 none
  statics := none }

/-- the primitive byte -/
def k22 : Class := { plain "byte" none with kind := .primitive 'B', accessFlags := 0x411 }
/-- [B -/
def k23 : Class := { plain "[B" (some 0) with kind := .array 22 .byte, interfaces := #[21, 2], accessFlags := 1041 }

/-- the primitive char -/
def k24 : Class := { plain "char" none with kind := .primitive 'C', accessFlags := 0x411 }
/-- [C -/
def k25 : Class := { plain "[C" (some 0) with kind := .array 24 .char, interfaces := #[21, 2], accessFlags := 1041 }

/-- the primitive int -/
def k26 : Class := { plain "int" none with kind := .primitive 'I', accessFlags := 0x411 }
/-- [I -/
def k27 : Class := { plain "[I" (some 0) with kind := .array 26 .int, interfaces := #[21, 2], accessFlags := 1041 }

/-- the primitive long -/
def k28 : Class := { plain "long" none with kind := .primitive 'J', accessFlags := 0x411 }
/-- [J -/
def k29 : Class := { plain "[J" (some 0) with kind := .array 28 .long, interfaces := #[21, 2], accessFlags := 1041 }

/-- [Lcom/example/ratable/ratable/core/Posted; -/
def k30 : Class := { plain "[Lcom/example/ratable/ratable/core/Posted;" (some 0) with kind := .array 9 (.object "com/example/ratable/ratable/core/Posted"), interfaces := #[21, 2], accessFlags := 1041 }

/-- [Ljava/lang/Object; -/
def k31 : Class := { plain "[Ljava/lang/Object;" (some 0) with kind := .array 0 (.object "java/lang/Object"), interfaces := #[21, 2], accessFlags := 1041 }

/-- [Ljava/lang/String; -/
def k32 : Class := { plain "[Ljava/lang/String;" (some 0) with kind := .array 7 (.object "java/lang/String"), interfaces := #[21, 2], accessFlags := 1041 }

/-- [Ljava/time/LocalDate; -/
def k33 : Class := { plain "[Ljava/time/LocalDate;" (some 0) with kind := .array 16 (.object "java/time/LocalDate"), interfaces := #[21, 2], accessFlags := 1041 }

def heap : Heap := #[{ cls := 7, slots := #[.long 0, .int 1, .null, .int 0, .null, .int 0, .int 0], vm := .statics 7 },
  { cls := 18, slots := #[.null, .null, .null], vm := .statics 18 }]
def classes : Array Class := #[k0, k1, k2, k3, k4, k5, k6, k7, k8, k9, k10, k11, k12, k13, k14, k15, k16, k17, k18, k19, k20, k21, k22, k23, k24, k25, k26, k27, k28, k29, k30, k31, k32, k33]
def interned : List (Array UInt16 × Addr) := []
def slotsUsed : Nat := 10
def theMethod : MethodId := ⟨1, 1⟩
def args0 : Array Value := #[.int 5, .int 6, .int 7, .int 3]
def aboutOver (below : List Frame) : State where
  vm := { classes := classes, interned := interned.toArray }
  heap := heap
  slotsUsed := slotsUsed
  threads := #[{ frames := .invoking theMethod args0 :: below }]
def below0 : List Frame := [.native { method := ⟨0, 0⟩, args := #[] }]
def about1 : State := aboutOver below0
def p0 : Program := .bare "" "" ""
def e0 : Env := launch0.env 0 0 0
theorem w_frames : about1.frames = Frame.invoking theMethod args0 :: below0 := rfl
set_option maxRecDepth 65536 in
theorem w_args : argsFit about1.vm theMethod args0 = true := by decide +kernel
set_option maxRecDepth 65536 in
theorem w_heap : heapFits about1 = true := by decide +kernel
set_option maxRecDepth 65536 in
theorem w_runnable : about1.curStatus? = some .runnable := by decide +kernel
set_option maxRecDepth 65536 in
theorem w_alone : about1.alone = true := by decide +kernel
set_option maxRecDepth 65536 in
theorem w_named : about1.methodNamed? x = some theMethod := by decide +kernel
set_option maxRecDepth 65536 in
theorem w_hears : about1.hears theMethod below0 = true := by decide +kernel
set_option maxRecDepth 65536 in
theorem w_ripe : about1.ripe theMethod args0 below0 = true := by decide +kernel
theorem w_running : about1.status = .running := rfl
set_option maxRecDepth 65536 in
theorem w_room : about1.hasRoom e0.platform room_1 = true :=
  launch0.hasRoom_least _ room_1 (by decide +kernel) (by decide +kernel) (by decide +kernel) (by decide +kernel) (by decide +kernel) (by decide +kernel)
theorem allAtoms_all (ts : List Jvm.Cond) (a : Array Jvm.Value) (st : Jvm.State) : (allAtoms ts).before a st = ts.all (fun c => c.before a st) := by
  induction ts with
  | nil => rfl
  | cons c t ih =>
    show (Jvm.Cond.and c (allAtoms t)).before a st = _
    rw [Jvm.Cond.before_and, ih, List.all_cons]
def words1 : List Jvm.Cond := Jvm.Cond.code x code maxLocals ret :: tables_1
/-- a 'code' word, met by the world's own term for the bytes: nothing is compared byte by byte -/
theorem code_word {y : MethodName} {bytes : ByteArray} {mx : Nat} {rt : Option FieldType} {a : Array Value} {s : State} {m : MethodId} {meth : Method} {c : Code} (h1 : s.methodNamed? y = some m) (h2 : s.vm.method? m = some meth) (h3 : meth.code = some c) (h4 : c.code = bytes)
    (h5 : (c.maxLocals == mx && c.exceptionTable.isEmpty && decide (c.maxStack ≤ mostOperands) && decide (meth.sig.returnType = rt) && !meth.locks && decide (parseMethodDescriptor y.desc = some meth.sig)) = true) : (Jvm.Cond.code y bytes mx rt).before a s = true := by
  simp only [Bool.and_eq_true, beq_iff_eq, Bool.not_eq_true', decide_eq_true_eq] at h5
  obtain ⟨⟨⟨⟨⟨g1, g2⟩, g3⟩, g4⟩, g5⟩, g6⟩ := h5
  simp [Cond.before, Cond.holds, Cond.value, h1, h2, h3, h4, g1, g2, g3, g4, g5, g6]
def isCode : Jvm.Cond → Bool
  | .code _ _ _ _ => true
  | _ => false
theorem all_split {L : List Jvm.Cond} {P : Jvm.Cond → Bool} (h1 : L.all (fun c => isCode c || P c) = true) (h2 : ∀ c ∈ L.filter isCode, P c = true) : L.all P = true := by
  refine List.all_eq_true.mpr fun c hc => ?_
  have h := List.all_eq_true.mp h1 c hc
  rcases Bool.eq_false_or_eq_true (isCode c) with hi | hi
  · exact h2 c (List.mem_filter.mpr ⟨hc, hi⟩)
  · simpa [hi] using h
set_option maxRecDepth 65536 in
theorem w_c0 : (Jvm.Cond.code x code maxLocals ret).before args0 about1 = true := code_word (m := ⟨1, 1⟩) (meth := k1m1) (c := k1c1) (by decide +kernel) rfl rfl rfl (by decide +kernel)
set_option maxRecDepth 65536 in
theorem w_c1 : (Jvm.Cond.code ({ cls := "com/example/ratable/ratable/core/PostedByIdAtPinLaw", name := "id", desc := "(I)Ljava/lang/String;" } : Jvm.MethodName) method_4_code (2 : Nat) (Option.some (Jvm.ClassFile.FieldType.object "java/lang/String"))).before args0 about1 = true := code_word (m := ⟨1, 3⟩) (meth := k1m3) (c := k1c3) (by decide +kernel) rfl rfl rfl (by decide +kernel)
set_option maxRecDepth 65536 in
theorem w_c2 : (Jvm.Cond.code ({ cls := "java/lang/String", name := "valueOf", desc := "(C)Ljava/lang/String;" } : Jvm.MethodName) jdk_42_method_139_code (1 : Nat) (Option.some (Jvm.ClassFile.FieldType.object "java/lang/String"))).before args0 about1 = true := code_word (m := ⟨7, 4⟩) (meth := k7m4) (c := k7c4) (by decide +kernel) rfl rfl rfl (by decide +kernel)
set_option maxRecDepth 65536 in
theorem w_c3 : (Jvm.Cond.code ({ cls := "java/lang/StringLatin1", name := "canEncode", desc := "(C)Z" } : Jvm.MethodName) jdk_43_method_3_code (1 : Nat) (Option.some Jvm.ClassFile.FieldType.boolean)).before args0 about1 = true := code_word (m := ⟨8, 1⟩) (meth := k8m1) (c := k8c1) (by decide +kernel) rfl rfl rfl (by decide +kernel)
set_option maxRecDepth 65536 in
theorem w_c4 : (Jvm.Cond.code ({ cls := "java/lang/StringLatin1", name := "toBytes", desc := "(C)[B" } : Jvm.MethodName) jdk_43_method_46_code (1 : Nat) (Option.some (Jvm.ClassFile.FieldType.array Jvm.ClassFile.FieldType.byte))).before args0 about1 = true := code_word (m := ⟨8, 4⟩) (meth := k8m4) (c := k8c4) (by decide +kernel) rfl rfl rfl (by decide +kernel)
set_option maxRecDepth 65536 in
theorem w_c5 : (Jvm.Cond.code ({ cls := "java/lang/String", name := "<init>", desc := "([BB)V" } : Jvm.MethodName) jdk_42_method_151_code (3 : Nat) (Option.none : Option Jvm.ClassFile.FieldType)).before args0 about1 = true := code_word (m := ⟨7, 6⟩) (meth := k7m6) (c := k7c6) (by decide +kernel) rfl rfl rfl (by decide +kernel)
set_option maxRecDepth 65536 in
theorem w_c6 : (Jvm.Cond.code ({ cls := "java/lang/Object", name := "<init>", desc := "()V" } : Jvm.MethodName) object_method_1_code (1 : Nat) (Option.none : Option Jvm.ClassFile.FieldType)).before args0 about1 = true := code_word (m := ⟨0, 0⟩) (meth := k0m0) (c := k0c0) (by decide +kernel) rfl rfl rfl (by decide +kernel)
set_option maxRecDepth 65536 in
theorem w_c7 : (Jvm.Cond.code ({ cls := "com/example/ratable/ratable/core/PostedById", name := "<init>", desc := "()V" } : Jvm.MethodName) prog_64_method_1_code (1 : Nat) (Option.none : Option Jvm.ClassFile.FieldType)).before args0 about1 = true := code_word (m := ⟨10, 0⟩) (meth := k10m0) (c := k10c0) (by decide +kernel) rfl rfl rfl (by decide +kernel)
set_option maxRecDepth 65536 in
theorem w_c8 : (Jvm.Cond.code ({ cls := "com/example/ratable/ratable/core/PostedById", name := "open", desc := "(Ljava/lang/String;)Lcom/example/ratable/ratable/core/Posted;" } : Jvm.MethodName) prog_64_method_4_code (3 : Nat) (Option.some (Jvm.ClassFile.FieldType.object "com/example/ratable/ratable/core/Posted"))).before args0 about1 = true := code_word (m := ⟨10, 3⟩) (meth := k10m3) (c := k10c3) (by decide +kernel) rfl rfl rfl (by decide +kernel)
set_option maxRecDepth 65536 in
theorem w_c9 : (Jvm.Cond.code ({ cls := "com/example/ratable/ratable/core/PostedById", name := "get", desc := "(Ljava/lang/String;)Lcom/example/ratable/ratable/core/Posted;" } : Jvm.MethodName) prog_64_method_3_code (4 : Nat) (Option.some (Jvm.ClassFile.FieldType.object "com/example/ratable/ratable/core/Posted"))).before args0 about1 = true := code_word (m := ⟨10, 2⟩) (meth := k10m2) (c := k10c2) (by decide +kernel) rfl rfl rfl (by decide +kernel)
set_option maxRecDepth 65536 in
theorem w_c10 : (Jvm.Cond.code ({ cls := "com/example/ratable/ratable/core/PostedById", name := "hash", desc := "(Ljava/lang/String;)I" } : Jvm.MethodName) prog_64_method_11_code (2 : Nat) (Option.some Jvm.ClassFile.FieldType.int)).before args0 about1 = true := code_word (m := ⟨10, 7⟩) (meth := k10m7) (c := k10c7) (by decide +kernel) rfl rfl rfl (by decide +kernel)
set_option maxRecDepth 65536 in
theorem w_c11 : (Jvm.Cond.code ({ cls := "java/lang/String", name := "hashCode", desc := "()I" } : Jvm.MethodName) jdk_42_method_78_code (2 : Nat) (Option.some Jvm.ClassFile.FieldType.int)).before args0 about1 = true := code_word (m := ⟨7, 3⟩) (meth := k7m3) (c := k7c3) (by decide +kernel) rfl rfl rfl (by decide +kernel)
set_option maxRecDepth 65536 in
theorem w_c12 : (Jvm.Cond.code ({ cls := "java/lang/String", name := "isLatin1", desc := "()Z" } : Jvm.MethodName) jdk_42_method_154_code (1 : Nat) (Option.some Jvm.ClassFile.FieldType.boolean)).before args0 about1 = true := code_word (m := ⟨7, 7⟩) (meth := k7m7) (c := k7c7) (by decide +kernel) rfl rfl rfl (by decide +kernel)
set_option maxRecDepth 65536 in
theorem w_c13 : (Jvm.Cond.code ({ cls := "java/lang/StringLatin1", name := "hashCode", desc := "([B)I" } : Jvm.MethodName) jdk_43_method_21_code (1 : Nat) (Option.some Jvm.ClassFile.FieldType.int)).before args0 about1 = true := code_word (m := ⟨8, 3⟩) (meth := k8m3) (c := k8c3) (by decide +kernel) rfl rfl rfl (by decide +kernel)
set_option maxRecDepth 65536 in
theorem w_c14 : (Jvm.Cond.code ({ cls := "com/example/ratable/ratable/core/Posted", name := "<init>", desc := "(Ljava/lang/String;)V" } : Jvm.MethodName) prog_62_method_1_code (2 : Nat) (Option.none : Option Jvm.ClassFile.FieldType)).before args0 about1 = true := code_word (m := ⟨9, 0⟩) (meth := k9m0) (c := k9c0) (by decide +kernel) rfl rfl rfl (by decide +kernel)
set_option maxRecDepth 65536 in
theorem w_c15 : (Jvm.Cond.code ({ cls := "com/example/ratable/ratable/core/Posted$Sums", name := "<init>", desc := "(I)V" } : Jvm.MethodName) prog_63_method_1_code (2 : Nat) (Option.none : Option Jvm.ClassFile.FieldType)).before args0 about1 = true := code_word (m := ⟨11, 0⟩) (meth := k11m0) (c := k11c0) (by decide +kernel) rfl rfl rfl (by decide +kernel)
set_option maxRecDepth 65536 in
theorem w_c16 : (Jvm.Cond.code ({ cls := "com/example/ratable/ratable/core/PostedById", name := "put", desc := "(Lcom/example/ratable/ratable/core/Posted;)V" } : Jvm.MethodName) prog_64_method_8_code (2 : Nat) (Option.none : Option Jvm.ClassFile.FieldType)).before args0 about1 = true := code_word (m := ⟨10, 5⟩) (meth := k10m5) (c := k10c5) (by decide +kernel) rfl rfl rfl (by decide +kernel)
set_option maxRecDepth 65536 in
theorem w_c17 : (Jvm.Cond.code ({ cls := "com/example/ratable/ratable/core/PostedById", name := "chain", desc := "(Lcom/example/ratable/ratable/core/Posted;[Lcom/example/ratable/ratable/core/Posted;)V" } : Jvm.MethodName) prog_64_method_10_code (3 : Nat) (Option.none : Option Jvm.ClassFile.FieldType)).before args0 about1 = true := code_word (m := ⟨10, 6⟩) (meth := k10m6) (c := k10c6) (by decide +kernel) rfl rfl rfl (by decide +kernel)
set_option maxRecDepth 65536 in
theorem w_c18 : (Jvm.Cond.code ({ cls := "com/example/ratable/ratable/core/PostedById", name := "size", desc := "()I" } : Jvm.MethodName) prog_64_method_2_code (1 : Nat) (Option.some Jvm.ClassFile.FieldType.int)).before args0 about1 = true := code_word (m := ⟨10, 1⟩) (meth := k10m1) (c := k10c1) (by decide +kernel) rfl rfl rfl (by decide +kernel)
set_option maxRecDepth 65536 in
theorem w_c19 : (Jvm.Cond.code ({ cls := "com/example/ratable/ratable/core/PostedById", name := "at", desc := "(I)Lcom/example/ratable/ratable/core/Posted;" } : Jvm.MethodName) prog_64_method_6_code (2 : Nat) (Option.some (Jvm.ClassFile.FieldType.object "com/example/ratable/ratable/core/Posted"))).before args0 about1 = true := code_word (m := ⟨10, 4⟩) (meth := k10m4) (c := k10c4) (by decide +kernel) rfl rfl rfl (by decide +kernel)
set_option maxRecDepth 65536 in
theorem w_c20 : (Jvm.Cond.code ({ cls := "java/util/Objects", name := "checkIndex", desc := "(II)I" } : Jvm.MethodName) jdk_31_method_17_code (2 : Nat) (Option.some Jvm.ClassFile.FieldType.int)).before args0 about1 = true := code_word (m := ⟨17, 1⟩) (meth := k17m1) (c := k17c1) (by decide +kernel) rfl rfl rfl (by decide +kernel)
set_option maxRecDepth 65536 in
theorem w_c21 : (Jvm.Cond.code ({ cls := "jdk/internal/util/Preconditions", name := "checkIndex", desc := "(IILjava/util/function/BiFunction;)I" } : Jvm.MethodName) jdk_41_method_11_code (3 : Nat) (Option.some Jvm.ClassFile.FieldType.int)).before args0 about1 = true := code_word (m := ⟨18, 1⟩) (meth := k18m1) (c := k18c1) (by decide +kernel) rfl rfl rfl (by decide +kernel)
set_option maxRecDepth 65536 in
theorem w_c22 : (Jvm.Cond.code ({ cls := "com/example/ratable/ratable/core/PostedByIdAtPinLaw", name := "same", desc := "(Lcom/example/ratable/ratable/core/Posted;Lcom/example/ratable/ratable/core/Posted;Ljava/lang/String;)Z" } : Jvm.MethodName) method_3_code (3 : Nat) (Option.some Jvm.ClassFile.FieldType.boolean)).before args0 about1 = true := code_word (m := ⟨1, 2⟩) (meth := k1m2) (c := k1c2) (by decide +kernel) rfl rfl rfl (by decide +kernel)
set_option maxRecDepth 65536 in
theorem w_c23 : (Jvm.Cond.code ({ cls := "java/lang/String", name := "equals", desc := "(Ljava/lang/Object;)Z" } : Jvm.MethodName) jdk_42_method_66_code (3 : Nat) (Option.some Jvm.ClassFile.FieldType.boolean)).before args0 about1 = true := code_word (m := ⟨7, 2⟩) (meth := k7m2) (c := k7c2) (by decide +kernel) rfl rfl rfl (by decide +kernel)
set_option maxRecDepth 65536 in
theorem w_c24 : (Jvm.Cond.code ({ cls := "java/lang/StringLatin1", name := "equals", desc := "([B[B)Z" } : Jvm.MethodName) jdk_43_method_13_code (3 : Nat) (Option.some Jvm.ClassFile.FieldType.boolean)).before args0 about1 = true := code_word (m := ⟨8, 2⟩) (meth := k8m2) (c := k8c2) (by decide +kernel) rfl rfl rfl (by decide +kernel)
set_option maxRecDepth 65536 in
theorem w_c25 : (Jvm.Cond.code ({ cls := "java/lang/String", name := "<init>", desc := "([C)V" } : Jvm.MethodName) jdk_42_method_3_code (2 : Nat) (Option.none : Option Jvm.ClassFile.FieldType)).before args0 about1 = true := code_word (m := ⟨7, 1⟩) (meth := k7m1) (c := k7c1) (by decide +kernel) rfl rfl rfl (by decide +kernel)
set_option maxRecDepth 65536 in
theorem w_c26 : (Jvm.Cond.code ({ cls := "java/lang/String", name := "<init>", desc := "([CIILjava/lang/Void;)V" } : Jvm.MethodName) jdk_42_method_149_code (6 : Nat) (Option.none : Option Jvm.ClassFile.FieldType)).before args0 about1 = true := code_word (m := ⟨7, 5⟩) (meth := k7m5) (c := k7c5) (by decide +kernel) rfl rfl rfl (by decide +kernel)
set_option maxRecDepth 65536 in
theorem w_c27 : (Jvm.Cond.code ({ cls := "java/lang/StringUTF16", name := "compress", desc := "([CII)[B" } : Jvm.MethodName) jdk_52_method_16_code (6 : Nat) (Option.some (Jvm.ClassFile.FieldType.array Jvm.ClassFile.FieldType.byte))).before args0 about1 = true := code_word (m := ⟨19, 2⟩) (meth := k19m2) (c := k19c2) (by decide +kernel) rfl rfl rfl (by decide +kernel)
set_option maxRecDepth 65536 in
theorem w_c28 : (Jvm.Cond.code ({ cls := "java/lang/StringUTF16", name := "compress", desc := "([CI[BII)I" } : Jvm.MethodName) jdk_52_method_21_code (7 : Nat) (Option.some Jvm.ClassFile.FieldType.int)).before args0 about1 = true := code_word (m := ⟨19, 3⟩) (meth := k19m3) (c := k19c3) (by decide +kernel) rfl rfl rfl (by decide +kernel)
set_option maxRecDepth 65536 in
theorem w_c29 : (Jvm.Cond.code ({ cls := "java/lang/StringUTF16", name := "coderFromArrayLen", desc := "([BI)B" } : Jvm.MethodName) jdk_52_method_15_code (2 : Nat) (Option.some Jvm.ClassFile.FieldType.byte)).before args0 about1 = true := code_word (m := ⟨19, 1⟩) (meth := k19m1) (c := k19c1) (by decide +kernel) rfl rfl rfl (by decide +kernel)
set_option maxRecDepth 65536 in
theorem w_c30 : (Jvm.Cond.code ({ cls := "jdk/internal/util/ArraysSupport", name := "vectorizedHashCode", desc := "(Ljava/lang/Object;IIII)I" } : Jvm.MethodName) jdk_48_method_4_code (5 : Nat) (Option.some Jvm.ClassFile.FieldType.int)).before args0 about1 = true := code_word (m := ⟨20, 1⟩) (meth := k20m1) (c := k20c1) (by decide +kernel) rfl rfl rfl (by decide +kernel)
set_option maxRecDepth 65536 in
theorem w_c31 : (Jvm.Cond.code ({ cls := "jdk/internal/util/ArraysSupport", name := "signedHashCode", desc := "(I[BII)I" } : Jvm.MethodName) jdk_48_method_5_code (6 : Nat) (Option.some Jvm.ClassFile.FieldType.int)).before args0 about1 = true := code_word (m := ⟨20, 2⟩) (meth := k20m2) (c := k20c2) (by decide +kernel) rfl rfl rfl (by decide +kernel)
def codes1 : List Jvm.Cond := [Jvm.Cond.code x code maxLocals ret, Jvm.Cond.code ({ cls := "com/example/ratable/ratable/core/PostedByIdAtPinLaw", name := "id", desc := "(I)Ljava/lang/String;" } : Jvm.MethodName) method_4_code (2 : Nat) (Option.some (Jvm.ClassFile.FieldType.object "java/lang/String")), Jvm.Cond.code ({ cls := "java/lang/String", name := "valueOf", desc := "(C)Ljava/lang/String;" } : Jvm.MethodName) jdk_42_method_139_code (1 : Nat) (Option.some (Jvm.ClassFile.FieldType.object "java/lang/String")), Jvm.Cond.code ({ cls := "java/lang/StringLatin1", name := "canEncode", desc := "(C)Z" } : Jvm.MethodName) jdk_43_method_3_code (1 : Nat) (Option.some Jvm.ClassFile.FieldType.boolean), Jvm.Cond.code ({ cls := "java/lang/StringLatin1", name := "toBytes", desc := "(C)[B" } : Jvm.MethodName) jdk_43_method_46_code (1 : Nat) (Option.some (Jvm.ClassFile.FieldType.array Jvm.ClassFile.FieldType.byte)), Jvm.Cond.code ({ cls := "java/lang/String", name := "<init>", desc := "([BB)V" } : Jvm.MethodName) jdk_42_method_151_code (3 : Nat) (Option.none : Option Jvm.ClassFile.FieldType), Jvm.Cond.code ({ cls := "java/lang/Object", name := "<init>", desc := "()V" } : Jvm.MethodName) object_method_1_code (1 : Nat) (Option.none : Option Jvm.ClassFile.FieldType), Jvm.Cond.code ({ cls := "com/example/ratable/ratable/core/PostedById", name := "<init>", desc := "()V" } : Jvm.MethodName) prog_64_method_1_code (1 : Nat) (Option.none : Option Jvm.ClassFile.FieldType), Jvm.Cond.code ({ cls := "com/example/ratable/ratable/core/PostedById", name := "open", desc := "(Ljava/lang/String;)Lcom/example/ratable/ratable/core/Posted;" } : Jvm.MethodName) prog_64_method_4_code (3 : Nat) (Option.some (Jvm.ClassFile.FieldType.object "com/example/ratable/ratable/core/Posted")), Jvm.Cond.code ({ cls := "com/example/ratable/ratable/core/PostedById", name := "get", desc := "(Ljava/lang/String;)Lcom/example/ratable/ratable/core/Posted;" } : Jvm.MethodName) prog_64_method_3_code (4 : Nat) (Option.some (Jvm.ClassFile.FieldType.object "com/example/ratable/ratable/core/Posted")), Jvm.Cond.code ({ cls := "com/example/ratable/ratable/core/PostedById", name := "hash", desc := "(Ljava/lang/String;)I" } : Jvm.MethodName) prog_64_method_11_code (2 : Nat) (Option.some Jvm.ClassFile.FieldType.int), Jvm.Cond.code ({ cls := "java/lang/String", name := "hashCode", desc := "()I" } : Jvm.MethodName) jdk_42_method_78_code (2 : Nat) (Option.some Jvm.ClassFile.FieldType.int), Jvm.Cond.code ({ cls := "java/lang/String", name := "isLatin1", desc := "()Z" } : Jvm.MethodName) jdk_42_method_154_code (1 : Nat) (Option.some Jvm.ClassFile.FieldType.boolean), Jvm.Cond.code ({ cls := "java/lang/StringLatin1", name := "hashCode", desc := "([B)I" } : Jvm.MethodName) jdk_43_method_21_code (1 : Nat) (Option.some Jvm.ClassFile.FieldType.int), Jvm.Cond.code ({ cls := "com/example/ratable/ratable/core/Posted", name := "<init>", desc := "(Ljava/lang/String;)V" } : Jvm.MethodName) prog_62_method_1_code (2 : Nat) (Option.none : Option Jvm.ClassFile.FieldType), Jvm.Cond.code ({ cls := "com/example/ratable/ratable/core/Posted$Sums", name := "<init>", desc := "(I)V" } : Jvm.MethodName) prog_63_method_1_code (2 : Nat) (Option.none : Option Jvm.ClassFile.FieldType), Jvm.Cond.code ({ cls := "com/example/ratable/ratable/core/PostedById", name := "put", desc := "(Lcom/example/ratable/ratable/core/Posted;)V" } : Jvm.MethodName) prog_64_method_8_code (2 : Nat) (Option.none : Option Jvm.ClassFile.FieldType), Jvm.Cond.code ({ cls := "com/example/ratable/ratable/core/PostedById", name := "chain", desc := "(Lcom/example/ratable/ratable/core/Posted;[Lcom/example/ratable/ratable/core/Posted;)V" } : Jvm.MethodName) prog_64_method_10_code (3 : Nat) (Option.none : Option Jvm.ClassFile.FieldType), Jvm.Cond.code ({ cls := "com/example/ratable/ratable/core/PostedById", name := "size", desc := "()I" } : Jvm.MethodName) prog_64_method_2_code (1 : Nat) (Option.some Jvm.ClassFile.FieldType.int), Jvm.Cond.code ({ cls := "com/example/ratable/ratable/core/PostedById", name := "at", desc := "(I)Lcom/example/ratable/ratable/core/Posted;" } : Jvm.MethodName) prog_64_method_6_code (2 : Nat) (Option.some (Jvm.ClassFile.FieldType.object "com/example/ratable/ratable/core/Posted")), Jvm.Cond.code ({ cls := "java/util/Objects", name := "checkIndex", desc := "(II)I" } : Jvm.MethodName) jdk_31_method_17_code (2 : Nat) (Option.some Jvm.ClassFile.FieldType.int), Jvm.Cond.code ({ cls := "jdk/internal/util/Preconditions", name := "checkIndex", desc := "(IILjava/util/function/BiFunction;)I" } : Jvm.MethodName) jdk_41_method_11_code (3 : Nat) (Option.some Jvm.ClassFile.FieldType.int), Jvm.Cond.code ({ cls := "com/example/ratable/ratable/core/PostedByIdAtPinLaw", name := "same", desc := "(Lcom/example/ratable/ratable/core/Posted;Lcom/example/ratable/ratable/core/Posted;Ljava/lang/String;)Z" } : Jvm.MethodName) method_3_code (3 : Nat) (Option.some Jvm.ClassFile.FieldType.boolean), Jvm.Cond.code ({ cls := "java/lang/String", name := "equals", desc := "(Ljava/lang/Object;)Z" } : Jvm.MethodName) jdk_42_method_66_code (3 : Nat) (Option.some Jvm.ClassFile.FieldType.boolean), Jvm.Cond.code ({ cls := "java/lang/StringLatin1", name := "equals", desc := "([B[B)Z" } : Jvm.MethodName) jdk_43_method_13_code (3 : Nat) (Option.some Jvm.ClassFile.FieldType.boolean), Jvm.Cond.code ({ cls := "java/lang/String", name := "<init>", desc := "([C)V" } : Jvm.MethodName) jdk_42_method_3_code (2 : Nat) (Option.none : Option Jvm.ClassFile.FieldType), Jvm.Cond.code ({ cls := "java/lang/String", name := "<init>", desc := "([CIILjava/lang/Void;)V" } : Jvm.MethodName) jdk_42_method_149_code (6 : Nat) (Option.none : Option Jvm.ClassFile.FieldType), Jvm.Cond.code ({ cls := "java/lang/StringUTF16", name := "compress", desc := "([CII)[B" } : Jvm.MethodName) jdk_52_method_16_code (6 : Nat) (Option.some (Jvm.ClassFile.FieldType.array Jvm.ClassFile.FieldType.byte)), Jvm.Cond.code ({ cls := "java/lang/StringUTF16", name := "compress", desc := "([CI[BII)I" } : Jvm.MethodName) jdk_52_method_21_code (7 : Nat) (Option.some Jvm.ClassFile.FieldType.int), Jvm.Cond.code ({ cls := "java/lang/StringUTF16", name := "coderFromArrayLen", desc := "([BI)B" } : Jvm.MethodName) jdk_52_method_15_code (2 : Nat) (Option.some Jvm.ClassFile.FieldType.byte), Jvm.Cond.code ({ cls := "jdk/internal/util/ArraysSupport", name := "vectorizedHashCode", desc := "(Ljava/lang/Object;IIII)I" } : Jvm.MethodName) jdk_48_method_4_code (5 : Nat) (Option.some Jvm.ClassFile.FieldType.int), Jvm.Cond.code ({ cls := "jdk/internal/util/ArraysSupport", name := "signedHashCode", desc := "(I[BII)I" } : Jvm.MethodName) jdk_48_method_5_code (6 : Nat) (Option.some Jvm.ClassFile.FieldType.int)]
set_option maxRecDepth 65536 in
theorem codes_eq : words1.filter isCode = codes1 := rfl
theorem w_codes : ∀ c ∈ words1.filter isCode, c.before args0 about1 = true := by
  rw [codes_eq]
  intro c hc
  simp only [codes1, List.mem_cons, List.not_mem_nil, or_false] at hc
  rcases hc with rfl | rfl | rfl | rfl | rfl | rfl | rfl | rfl | rfl | rfl | rfl | rfl | rfl | rfl | rfl | rfl | rfl | rfl | rfl | rfl | rfl | rfl | rfl | rfl | rfl | rfl | rfl | rfl | rfl | rfl | rfl | rfl
  · exact w_c0
  · exact w_c1
  · exact w_c2
  · exact w_c3
  · exact w_c4
  · exact w_c5
  · exact w_c6
  · exact w_c7
  · exact w_c8
  · exact w_c9
  · exact w_c10
  · exact w_c11
  · exact w_c12
  · exact w_c13
  · exact w_c14
  · exact w_c15
  · exact w_c16
  · exact w_c17
  · exact w_c18
  · exact w_c19
  · exact w_c20
  · exact w_c21
  · exact w_c22
  · exact w_c23
  · exact w_c24
  · exact w_c25
  · exact w_c26
  · exact w_c27
  · exact w_c28
  · exact w_c29
  · exact w_c30
  · exact w_c31
set_option maxRecDepth 65536 in
theorem w_t1 : (words1.take 24).all (fun c => isCode c || c.before args0 about1) = true := by decide +kernel
set_option maxRecDepth 65536 in
theorem w_t2 : ((words1.drop 24).take 24).all (fun c => isCode c || c.before args0 about1) = true := by decide +kernel
set_option maxRecDepth 65536 in
theorem w_t3 : (((words1.drop 24).drop 24).take 24).all (fun c => isCode c || c.before args0 about1) = true := by decide +kernel
set_option maxRecDepth 65536 in
theorem w_t4 : ((((words1.drop 24).drop 24).drop 24).take 24).all (fun c => isCode c || c.before args0 about1) = true := by decide +kernel
set_option maxRecDepth 65536 in
theorem w_t5 : (((((words1.drop 24).drop 24).drop 24).drop 24).take 24).all (fun c => isCode c || c.before args0 about1) = true := by decide +kernel
set_option maxRecDepth 65536 in
theorem w_t6 : ((((((words1.drop 24).drop 24).drop 24).drop 24).drop 24).take 24).all (fun c => isCode c || c.before args0 about1) = true := by decide +kernel
set_option maxRecDepth 65536 in
theorem w_t7 : (((((((words1.drop 24).drop 24).drop 24).drop 24).drop 24).drop 24).take 24).all (fun c => isCode c || c.before args0 about1) = true := by decide +kernel
set_option maxRecDepth 65536 in
theorem w_t8 : (((((((words1.drop 24).drop 24).drop 24).drop 24).drop 24).drop 24).drop 24).all (fun c => isCode c || c.before args0 about1) = true := by decide +kernel
theorem w_tables : (allAtoms (Jvm.Cond.code x code maxLocals ret :: tables_1)).before args0 about1 = true := by
  rw [allAtoms_all]
  show words1.all (fun c => c.before args0 about1) = true
  refine all_split ?_ w_codes
  rw [← List.take_append_drop 24 words1, List.all_append, w_t1, ← List.take_append_drop 24 (words1.drop 24), List.all_append, w_t2, ← List.take_append_drop 24 ((words1.drop 24).drop 24), List.all_append, w_t3, ← List.take_append_drop 24 (((words1.drop 24).drop 24).drop 24), List.all_append, w_t4, ← List.take_append_drop 24 ((((words1.drop 24).drop 24).drop 24).drop 24), List.all_append, w_t5, ← List.take_append_drop 24 (((((words1.drop 24).drop 24).drop 24).drop 24).drop 24), List.all_append, w_t6, ← List.take_append_drop 24 ((((((words1.drop 24).drop 24).drop 24).drop 24).drop 24).drop 24), List.all_append, w_t7, w_t8]
  rfl
set_option maxRecDepth 65536 in
theorem w_rest : rest_1_c.before args0 about1 = true := by decide +kernel
set_option maxRecDepth 65536 in
theorem w_case : (Jvm.Cond.and given_1 narrow_1).before args0 about1 = true := by decide +kernel
theorem w_applies : (headSpec (Jvm.Cond.code x code maxLocals ret :: tables_1) room_1).applies x e0.platform about1 = true :=
  (Spec.applies_iff w_frames).mpr ⟨w_running, w_runnable, w_alone, w_named, w_hears, w_ripe, w_room, w_tables⟩
theorem atStart : AtStart classFile x code maxLocals ret World_1 tables_1 room_1 Calls_1 rest_1 Pre_1 launch0 p0 e0 about1 theMethod args0 below0 :=
  ⟨lists_1, trivial, launch0.admits_env _ _ _, launch0.least_env, fairChoices_fair.cas, fairChoices_fair.clock, w_frames, w_args, w_heap, w_applies, trivial, w_rest, w_case⟩
end start1
theorem witness_1 : WitnessClaimed_1 := ⟨start1.p0, start1.e0, start1.about1, start1.theMethod, start1.args0, start1.below0, start1.atStart⟩
end Jvm.Pilot.@@N@@
