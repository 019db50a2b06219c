import JvmDerived
import JvmDerived.Pilot.@@N@@Statement
import JvmDerived.Pilot.@@N@@Code
set_option linter.unusedVariables false
set_option linter.unusedSimpArgs false
/- laws to paste: Road.backV, Road.eqW, Road.codOf (cut by pick.py; bodies as the Statement names them) -/
namespace Jvm.Pilot.@@N@@
namespace StrChars
open Jvm Sem ClassFile Op Lib Jvm.Stand Jvm.Free.XT Jvm.Free.ALB Jvm.Free.JM Jvm.Free
open Jvm.Lib.Cold (StaticIs)
/-- a char array whose places are chars -/
def Ch (a : Addr) (A : Cell) (U : State) : Prop := Arr .char a A U ∧ Typed .char A
theorem Ch.mv {a : Addr} {A : Cell} {U U' : State} (h : Ch a A U) (hal : U.vm.Alike U'.vm) (hh : U'.heap = U.heap) : Ch a A U' := ⟨h.1.mv hal hh, h.2⟩
theorem Ch.keep {a : Addr} {A : Cell} {U U' : State} (h : Ch a A U) (hal : U.vm.Alike U'.vm) (hk : U'.heap[a]? = some A) : Ch a A U' := ⟨h.1.keep hal hk, h.2⟩
/-- what place i of a char[]'s cell holds -/
def cv (A : Cell) (i : Nat) : Int32 := match A.slots[i]? with | some (.int x) => x | _ => 0
theorem Ch.get {a : Addr} {A : Cell} {U : State} (h : Ch a A U) {i : Nat} (hi : i < A.slots.size) : A.slots[i]? = some (.int (cv A i)) := by
  have e := Array.getElem?_eq_getElem hi
  have f := h.2 i _ e
  unfold cv; rw [e]
  generalize A.slots[i] = v at f
  cases v <;> simp [fits] at f ⊢
/-- the byte that i2b leaves of a char -/
def lo8 (x : Int32) : Int32 := x.toInt8.toInt32
theorem fits_lo8 (y : Int32) : fits .byte (.int (lo8 y)) = true := by
  have h1 := y.toInt8.le_toInt
  have h2 := y.toInt8.toInt_lt
  simp only [lo8, fits, Bool.and_eq_true, decide_eq_true_eq, Int32.le_iff_toInt_le, Int8.toInt_toInt32, show (-128 : Int32).toInt = -128 from by decide, show (127 : Int32).toInt = 127 from by decide]
  omega
/-- A' is A but that each place j of lo .. hi - 1 holds f j -/
def Laid (A A' : Cell) (lo hi : Nat) (f : Nat → Value) : Prop := A'.cls = A.cls ∧ A'.vm = A.vm ∧ A'.slots.size = A.slots.size ∧ ∀ i, A'.slots[i]? = if lo ≤ i ∧ i < hi then some (f i) else A.slots[i]?
theorem Laid.zero (A : Cell) (lo : Nat) (f : Nat → Value) : Laid A A lo (lo + 0) f := ⟨rfl, rfl, rfl, fun i => by rw [if_neg (by omega)]⟩
theorem Laid.step {A Ak : Cell} {lo k : Nat} {f : Nat → Value} {v : Value} (h : Laid A Ak lo k f) (hlo : lo ≤ k) (hk : k < Ak.slots.size) (hv : v = f k) : Laid A (Ak.setSlot k v) lo (k + 1) f := by
  refine ⟨h.1, h.2.1, by simpa [Cell.setSlot] using h.2.2.1, fun i => ?_⟩
  by_cases e : k = i
  · subst e; rw [Cell.slots_setSlot_self v hk, if_pos (by omega), hv]
  · rw [Cell.slots_setSlot_ne v e, h.2.2.2 i]
    by_cases q : lo ≤ i ∧ i < k
    · rw [if_pos q, if_pos (by omega)]
    · rw [if_neg q, if_neg (by omega)]
def U16 : String := "java/lang/StringUTF16"
namespace Cmp5
def yN : MethodName := ⟨"java/lang/StringUTF16", "compress", "([CI[BII)I"⟩
abbrev yB : ByteArray := jdk_52_method_21_code
theorem d0 : decode yB 0 = .ok (.iconst 0, 1) := by decide +kernel
theorem d1 : decode yB 1 = .ok (.istore 5, 2) := by decide +kernel
theorem d3 : decode yB 3 = .ok (.iload 5, 2) := by decide +kernel
theorem d5 : decode yB 5 = .ok (.iload 4, 2) := by decide +kernel
theorem d7 : decode yB 7 = .ok (.if_icmp (.ge) 37, 3) := by decide +kernel
theorem d10 : decode yB 10 = .ok (.aload_n 0, 1) := by decide +kernel
theorem d11 : decode yB 11 = .ok (.iload_n 1, 1) := by decide +kernel
theorem d12 : decode yB 12 = .ok (.caload, 1) := by decide +kernel
theorem d13 : decode yB 13 = .ok (.istore 6, 2) := by decide +kernel
theorem d15 : decode yB 15 = .ok (.iload 6, 2) := by decide +kernel
theorem d17 : decode yB 17 = .ok (.sipush 255, 3) := by decide +kernel
theorem d20 : decode yB 20 = .ok (.if_icmp (.le) 6, 3) := by decide +kernel
theorem d26 : decode yB 26 = .ok (.aload_n 2, 1) := by decide +kernel
theorem d27 : decode yB 27 = .ok (.iload_n 3, 1) := by decide +kernel
theorem d28 : decode yB 28 = .ok (.iload 6, 2) := by decide +kernel
theorem d30 : decode yB 30 = .ok (.i2b, 1) := by decide +kernel
theorem d31 : decode yB 31 = .ok (.bastore, 1) := by decide +kernel
theorem d32 : decode yB 32 = .ok (.iinc 1 1, 3) := by decide +kernel
theorem d35 : decode yB 35 = .ok (.iinc 3 1, 3) := by decide +kernel
theorem d38 : decode yB 38 = .ok (.iinc 5 1, 3) := by decide +kernel
theorem d41 : decode yB 41 = .ok (.goto (-38), 3) := by decide +kernel
theorem d44 : decode yB 44 = .ok (.iload 4, 2) := by decide +kernel
theorem d46 : decode yB 46 = .ok (.ireturn, 1) := by decide +kernel
def site : List Cond := []
def tab : Cond := tabOf yN yB 7 (some .int) site
def P (b : Addr) (A : Cell) (d : Addr) (B : Cell) (o q len : Nat) (args : Array Value) (s : State) : Prop := args = #[.ref b, .int (Int32.ofNat o), .ref d, .int (Int32.ofNat q), .int (Int32.ofNat len)] ∧ Ch b A s ∧ Arr .byte d B s ∧ b ≠ d ∧ o + len ≤ A.slots.size ∧ q + len ≤ B.slots.size ∧ ∀ i, i < len → ¬ 255 < cv A (o + i)
def E (b : Addr) (A : Cell) (d : Addr) (B : Cell) (o q len : Nat) (r : Option Value) (s u : State) : Prop := r = some (.int (Int32.ofNat len)) ∧ ∃ B', Put d B' s u ∧ Laid B B' q (q + len) (fun j => Value.int (lo8 (cv A (o + (j - q)))))
/-- no char of the range above 255: len; the places written hold each char's low byte -/
theorem law (l : Launch) (b : Addr) (A : Cell) (d : Addr) (B : Cell) (o q len : Nat) : Law l yN 5 5 0 0 yB 7 (some .int) site (P b A d B o q len) (E b A d B o q len) (copyLocs d q len) 0 0 := by
  refine Law.of_walk (plainFor_of_name (by decide +kernel)) (by decide +kernel) (by decide +kernel) (by decide) (fun _ _ h => by rw [h.1]; rfl) (fun _ U U' hal hh h => ⟨h.1, h.2.1.mv hal hh, h.2.2.1.mv hal hh, h.2.2.2⟩) (fun r U U' V V' h1 hal h2 h => ⟨h.1, h.2.elim fun B' q => ⟨B', q.1.mv h1 h2, q.2⟩⟩) ?_
  intro p e s m args below meth c s₁ X0 hexec hbytes hml hret hlk hnm hown hh0 W hP
  obtain ⟨rfl, hA, hB, hne, l1, l2, hp⟩ := hP
  have c1 : Steps p.tables e below (s₁.setTop (entryFrame m #[.ref b, .int (Int32.ofNat o), .ref d, .int (Int32.ofNat q), .int (Int32.ofNat len)] 7)) (s₁.setTop (mkF m 0 #[.val (.ref b), .val (.int (Int32.ofNat o)), .val (.ref d), .val (.int (Int32.ofNat q)), .val (.int (Int32.ofNat len)), .unset, .unset] [])) := entry rfl
  have hA0 := hA.1.mv X0.warmed.alike hh0
  have hB0 := hB.mv X0.warmed.alike hh0
  have a31 := hA.1.2.2.2
  have c2 : Steps p.tables e below (s₁.setTop (entryFrame m #[.ref b, .int (Int32.ofNat o), .ref d, .int (Int32.ofNat q), .int (Int32.ofNat len)] 7)) (s₁.setTop (mkF m 3 #[.val (.ref b), .val (.int (Int32.ofNat o)), .val (.ref d), .val (.int (Int32.ofNat q)), .val (.int (Int32.ofNat len)), .val (.int 0), .unset] [])) := c1.trans (by
    refine iconstV X0.here hexec rfl 0 (hb hbytes d0) (by decide) ?_
    refine XS.istore X0.here hexec rfl (hb hbytes d1) rfl rfl ?_
    exact Steps.refl _)
  have loop : ∀ (r i : Nat), i + r = len → ∀ (z : Slot), (z = .unset ∨ ∃ w, z = .val w ∧ w.category = 1) → ∀ (Tl : State) (Bk : Cell), Stand p l e { frames := 0, locals := 0, cells := 0, slots := 0 } s m #[.ref b, .int (Int32.ofNat o), .ref d, .int (Int32.ofNat q), .int (Int32.ofNat len)] below meth c Tl ([] ++ copyLocs d q i) 0 0 → Put d Bk s₁ Tl → Laid B Bk q (q + i) (fun j => Value.int (lo8 (cv A (o + (j - q))))) →
      Steps p.tables e below (s₁.setTop (entryFrame m #[.ref b, .int (Int32.ofNat o), .ref d, .int (Int32.ofNat q), .int (Int32.ofNat len)] 7)) (Tl.setTop (mkF m 3 #[.val (.ref b), .val (.int (Int32.ofNat (o + i))), .val (.ref d), .val (.int (Int32.ofNat (q + i))), .val (.int (Int32.ofNat len)), .val (.int (Int32.ofNat i)), z] [])) → ∃ (T' : State) (B' : Cell) (z' : Slot), Stand p l e { frames := 0, locals := 0, cells := 0, slots := 0 } s m #[.ref b, .int (Int32.ofNat o), .ref d, .int (Int32.ofNat q), .int (Int32.ofNat len)] below meth c T' ([] ++ copyLocs d q len) 0 0 ∧ Put d B' s₁ T' ∧ Laid B B' q (q + len) (fun j => Value.int (lo8 (cv A (o + (j - q))))) ∧
      Steps p.tables e below (s₁.setTop (entryFrame m #[.ref b, .int (Int32.ofNat o), .ref d, .int (Int32.ofNat q), .int (Int32.ofNat len)] 7)) (T'.setTop (mkF m 3 #[.val (.ref b), .val (.int (Int32.ofNat (o + len))), .val (.ref d), .val (.int (Int32.ofNat (q + len))), .val (.int (Int32.ofNat len)), .val (.int (Int32.ofNat len)), z'] [])) := by
    intro r
    induction r with
    | zero =>
      intro i hi z hz Tl Bk Xl pl fl cl
      have hil : i = len := by omega
      rw [hil] at Xl fl cl
      exact ⟨Tl, Bk, z, Xl, pl, fl, cl⟩
    | succ r ih =>
      intro i hi z hz Tl Bk Xl pl fl cl
      have all := X0.warmed.alike.symm.trans Xl.warmed.alike
      have hAl := hA0.keep all (pl.other hne hA0.1)
      have hBk := hB0.like all pl.1 fl.1 fl.2.1 fl.2.2.1
      have hlt : q + i < Bk.slots.size := by rw [fl.2.2.1]; omega
      have c3 : Steps p.tables e below (s₁.setTop (entryFrame m #[.ref b, .int (Int32.ofNat o), .ref d, .int (Int32.ofNat q), .int (Int32.ofNat len)] 7)) (Tl.setTop (mkF m 12 #[.val (.ref b), .val (.int (Int32.ofNat (o + i))), .val (.ref d), .val (.int (Int32.ofNat (q + i))), .val (.int (Int32.ofNat len)), .val (.int (Int32.ofNat i)), z] [.int (Int32.ofNat (o + i)), .ref b])) := cl.trans (by
        refine XS.iload Xl.here hexec rfl (hb hbytes d3) rfl ?_
        refine XS.iload Xl.here hexec rfl (hb hbytes d5) rfl ?_
        refine XS.icmpNo Xl.here hexec rfl (hb hbytes d7) rfl (ii_ge_f (lt32 (by omega) (by omega))) ?_
        refine XS.aloadN Xl.here hexec rfl (hb hbytes d10) rfl rfl ?_
        refine XS.iloadN Xl.here hexec rfl (hb hbytes d11) rfl ?_
        exact Steps.refl _)
      have c4 : Steps p.tables e below (s₁.setTop (entryFrame m #[.ref b, .int (Int32.ofNat o), .ref d, .int (Int32.ofNat q), .int (Int32.ofNat len)] 7)) (Tl.setTop (mkF m 13 #[.val (.ref b), .val (.int (Int32.ofNat (o + i))), .val (.ref d), .val (.int (Int32.ofNat (q + i))), .val (.int (Int32.ofNat len)), .val (.int (Int32.ofNat i)), z] [.int (cv A (o + i))])) := c3.trans (by
        refine Xl.aget hexec hAl rfl (hA.get (i := o + i) (by omega)) rfl rfl (hb hbytes d12) ?_
        exact Steps.refl _)
      have c5 : Steps p.tables e below (s₁.setTop (entryFrame m #[.ref b, .int (Int32.ofNat o), .ref d, .int (Int32.ofNat q), .int (Int32.ofNat len)] 7)) (Tl.setTop (mkF m 15 #[.val (.ref b), .val (.int (Int32.ofNat (o + i))), .val (.ref d), .val (.int (Int32.ofNat (q + i))), .val (.int (Int32.ofNat len)), .val (.int (Int32.ofNat i)), .val (.int (cv A (o + i)))] [])) := c4.trans (by
        refine XS.istoreS Xl.here hexec rfl (hb hbytes d13) rfl rfl hz ?_
        exact Steps.refl _)
      have c6 : Steps p.tables e below (s₁.setTop (entryFrame m #[.ref b, .int (Int32.ofNat o), .ref d, .int (Int32.ofNat q), .int (Int32.ofNat len)] 7)) (Tl.setTop (mkF m 31 #[.val (.ref b), .val (.int (Int32.ofNat (o + i))), .val (.ref d), .val (.int (Int32.ofNat (q + i))), .val (.int (Int32.ofNat len)), .val (.int (Int32.ofNat i)), .val (.int (cv A (o + i)))] [.int (lo8 (cv A (o + i))), .int (Int32.ofNat (q + i)), .ref d])) := c5.trans (by
        refine XS.iload Xl.here hexec rfl (hb hbytes d15) rfl ?_
        refine sipushV Xl.here hexec rfl 255 (hb hbytes d17) (by decide) ?_
        refine XS.icmpYes Xl.here hexec rfl (pc0 := 20) rfl (hb hbytes d20) rfl (ii_le_t (hp i (by omega))) (by decide) rfl ?_
        refine XS.aloadN Xl.here hexec rfl (hb hbytes d26) rfl rfl ?_
        refine XS.iloadN Xl.here hexec rfl (hb hbytes d27) rfl ?_
        refine XS.iload Xl.here hexec rfl (hb hbytes d28) rfl ?_
        refine i2b Xl.here hexec rfl (hb hbytes d30) rfl ?_
        exact Steps.refl _)
      obtain ⟨T7, X7, p7, st7⟩ := Xl.aput hexec hBk rfl hlt rfl (fits_lo8 (cv A (o + i))) (g := (mkF m 31 #[.val (.ref b), .val (.int (Int32.ofNat (o + i))), .val (.ref d), .val (.int (Int32.ofNat (q + i))), .val (.int (Int32.ofNat len)), .val (.int (Int32.ofNat i)), .val (.int (cv A (o + i)))] [.int (lo8 (cv A (o + i))), .int (Int32.ofNat (q + i)), .ref d])) rfl (rest := []) rfl (hb hbytes d31)
      have c8 : Steps p.tables e below (s₁.setTop (entryFrame m #[.ref b, .int (Int32.ofNat o), .ref d, .int (Int32.ofNat q), .int (Int32.ofNat len)] 7)) (T7.setTop (mkF m 32 #[.val (.ref b), .val (.int (Int32.ofNat (o + i))), .val (.ref d), .val (.int (Int32.ofNat (q + i))), .val (.int (Int32.ofNat len)), .val (.int (Int32.ofNat i)), .val (.int (cv A (o + i)))] [])) := c6.trans (st7 _ (Steps.refl _))
      have c9 : Steps p.tables e below (s₁.setTop (entryFrame m #[.ref b, .int (Int32.ofNat o), .ref d, .int (Int32.ofNat q), .int (Int32.ofNat len)] 7)) (T7.setTop (mkF m 3 #[.val (.ref b), .val (.int (Int32.ofNat (o + i) + 1)), .val (.ref d), .val (.int (Int32.ofNat (q + i) + 1)), .val (.int (Int32.ofNat len)), .val (.int (Int32.ofNat i + 1)), .val (.int (cv A (o + i)))] [])) := c8.trans (by
        refine iincV X7.here hexec rfl 1 (hb hbytes d32) (by decide) rfl rfl ?_
        refine iincV X7.here hexec rfl 1 (hb hbytes d35) (by decide) rfl rfl ?_
        refine iincV X7.here hexec rfl 1 (hb hbytes d38) (by decide) rfl rfl ?_
        refine XS.goto X7.here hexec rfl (pc0 := 41) rfl (hb hbytes d41) (by decide) rfl ?_
        exact Steps.refl _)
      have c10 : Steps p.tables e below (s₁.setTop (entryFrame m #[.ref b, .int (Int32.ofNat o), .ref d, .int (Int32.ofNat q), .int (Int32.ofNat len)] 7)) (T7.setTop (mkF m 3 #[.val (.ref b), .val (.int (Int32.ofNat (o + (i + 1)))), .val (.ref d), .val (.int (Int32.ofNat (q + (i + 1)))), .val (.int (Int32.ofNat len)), .val (.int (Int32.ofNat (i + 1))), .val (.int (cv A (o + i)))] [])) := by
        have := c9
        rw [succ32, succ32, succ32] at this
        exact this
      exact ih (i + 1) (by omega) _ (Or.inr ⟨_, rfl, rfl⟩) T7 _ (by rw [copyLocs_step, ← List.append_assoc]; exact X7) (pl.trans p7) (fl.step (by omega) hlt (by simp)) c10
  obtain ⟨T9, B9, z9, X9, p9, f9, g9⟩ := loop len 0 (by omega) .unset (Or.inl rfl) s₁ B (by simpa [copyLocs] using X0) ⟨hB0.1, fun _ _ => rfl, rfl⟩ (Laid.zero _ _ _) c2
  have c11 : Steps p.tables e below (s₁.setTop (entryFrame m #[.ref b, .int (Int32.ofNat o), .ref d, .int (Int32.ofNat q), .int (Int32.ofNat len)] 7)) (T9.setTop (mkF m 46 #[.val (.ref b), .val (.int (Int32.ofNat (o + len))), .val (.ref d), .val (.int (Int32.ofNat (q + len))), .val (.int (Int32.ofNat len)), .val (.int (Int32.ofNat len)), z9] [.int (Int32.ofNat len)])) := g9.trans (by
    refine XS.iload X9.here hexec rfl (hb hbytes d3) rfl ?_
    refine XS.iload X9.here hexec rfl (hb hbytes d5) rfl ?_
    refine XS.icmpYes X9.here hexec rfl (pc0 := 7) rfl (hb hbytes d7) rfl (ii_ge_t (nlt32 (by omega) (Nat.le_refl _))) (by decide) rfl ?_
    refine XS.iload X9.here hexec rfl (hb hbytes d44) rfl ?_
    exact Steps.refl _)
  exact ⟨T9, some (.int (Int32.ofNat len)), _, _, _, X9, by simp, rfl, rfl, (fun h => by cases h), ⟨rfl, B9, p9.from hh0, f9⟩, fun fs hl => c11.trans (X9.ireturnOut hexec hret rfl (Or.inl rfl) (hb hbytes d46) hl)⟩
end Cmp5
namespace Cmp3
def yN : MethodName := ⟨"java/lang/StringUTF16", "compress", "([CII)[B"⟩
abbrev yB : ByteArray := jdk_52_method_16_code
theorem d0 : decode yB 0 = .ok (.iload_n 2, 1) := by decide +kernel
theorem d1 : decode yB 1 = .ok (.newarray .byte, 2) := by decide +kernel
theorem d3 : decode yB 3 = .ok (.astore_n 3, 1) := by decide +kernel
theorem d4 : decode yB 4 = .ok (.aload_n 0, 1) := by decide +kernel
theorem d5 : decode yB 5 = .ok (.iload_n 1, 1) := by decide +kernel
theorem d6 : decode yB 6 = .ok (.aload_n 3, 1) := by decide +kernel
theorem d7 : decode yB 7 = .ok (.iconst 0, 1) := by decide +kernel
theorem d8 : decode yB 8 = .ok (.iload_n 2, 1) := by decide +kernel
theorem d9 : decode yB 9 = .ok (.invokestatic 115, 3) := by decide +kernel
theorem d12 : decode yB 12 = .ok (.istore 4, 2) := by decide +kernel
theorem d14 : decode yB 14 = .ok (.iload 4, 2) := by decide +kernel
theorem d16 : decode yB 16 = .ok (.iload_n 2, 1) := by decide +kernel
theorem d17 : decode yB 17 = .ok (.if_icmp (.eq) 40, 3) := by decide +kernel
theorem d57 : decode yB 57 = .ok (.aload_n 3, 1) := by decide +kernel
theorem d58 : decode yB 58 = .ok (.areturn, 1) := by decide +kernel
def site : List Cond := [.arrayClass .byte, Cmp5.tab] ++ staticW U16 115 Cmp5.yN
def tab : Cond := tabOf yN yB 6 (some (.array .byte)) site
def P (b : Addr) (A : Cell) (o len : Nat) (args : Array Value) (s : State) : Prop := args = #[.ref b, .int (Int32.ofNat o), .int (Int32.ofNat len)] ∧ Ch b A s ∧ o + len ≤ A.slots.size ∧ len ≤ 536870912 ∧ ∀ i, i < len → ¬ 255 < cv A (o + i)
def E (b : Addr) (A : Cell) (o len : Nat) (r : Option Value) (s u : State) : Prop := NewArr .byte "[B" len (fun j => .int (lo8 (cv A (o + j)))) r s u ∧ u.heap.size = s.heap.size + 1
/-- no char of the range above 255: a new byte[] of their low bytes -/
theorem law (l : Launch) (b : Addr) (A : Cell) (o len : Nat) : Law l yN 3 3 1 18 yB 6 (some (.array .byte)) site (P b A o len) (E b A o len) [] 1 len := by
  refine Law.of_walk (plainFor_of_name (by decide +kernel)) (by decide +kernel) (by decide +kernel) (by decide) (fun _ _ h => by rw [h.1]; rfl) (fun _ U U' hal hh h => ⟨h.1, h.2.1.mv hal hh, h.2.2⟩) (fun r U U' V V' h1 hal h2 h => ⟨NewArr.mv r U U' V V' h1 hal h2 h.1, by rw [h1, h2]; exact h.2⟩) ?_
  intro p e s m args below meth c s₁ X0 hexec hbytes hml hret hlk hnm hown hh0 W hP
  obtain ⟨rfl, hA, l1, l2, hp⟩ := hP
  have a31 := hA.1.2.2.2
  have c1 : Steps p.tables e below (s₁.setTop (entryFrame m #[.ref b, .int (Int32.ofNat o), .int (Int32.ofNat len)] 6)) (s₁.setTop (mkF m 0 #[.val (.ref b), .val (.int (Int32.ofNat o)), .val (.int (Int32.ofNat len)), .unset, .unset, .unset] [])) := entry rfl
  have c2 : Steps p.tables e below (s₁.setTop (entryFrame m #[.ref b, .int (Int32.ofNat o), .int (Int32.ofNat len)] 6)) (s₁.setTop (mkF m 1 #[.val (.ref b), .val (.int (Int32.ofNat o)), .val (.int (Int32.ofNat len)), .unset, .unset, .unset] [.int (Int32.ofNat len)])) := c1.trans (by
    refine XS.iloadN X0.here hexec rfl (hb hbytes d0) rfl ?_
    exact Steps.refl _)
  obtain ⟨T3, B3, X3, ba3, bs3, bv3, bh3, bf3, st3⟩ := X0.anew hexec (atype := .byte) (wk W (.arrayClass .byte)) rfl (by show len * 1 ≤ _; omega) (by omega) (g := (mkF m 1 #[.val (.ref b), .val (.int (Int32.ofNat o)), .val (.int (Int32.ofNat len)), .unset, .unset, .unset] [.int (Int32.ofNat len)])) rfl (hb hbytes d1) (rest := []) rfl (Nat.le_refl _) (by show 0 + len ≤ len; omega)
  rw [hh0] at ba3 st3
  have kp3 : XT.Kept s T3 := (XT.Kept.of_eq hh0).push bh3
  have hA3 := hA.keep X3.warmed.alike (kp3 _ _ hA.1.1)
  have hne : b ≠ s.heap.size := hA.1.ne
  have c4 : Steps p.tables e below (s₁.setTop (entryFrame m #[.ref b, .int (Int32.ofNat o), .int (Int32.ofNat len)] 6)) (T3.setTop (mkF m 3 #[.val (.ref b), .val (.int (Int32.ofNat o)), .val (.int (Int32.ofNat len)), .unset, .unset, .unset] [.ref s.heap.size])) := c2.trans (st3 _ (Steps.refl _))
  have c5 : Steps p.tables e below (s₁.setTop (entryFrame m #[.ref b, .int (Int32.ofNat o), .int (Int32.ofNat len)] 6)) (T3.setTop (mkF m 9 #[.val (.ref b), .val (.int (Int32.ofNat o)), .val (.int (Int32.ofNat len)), .val (.ref s.heap.size), .unset, .unset] [.int (Int32.ofNat len), .int 0, .ref s.heap.size, .int (Int32.ofNat o), .ref b])) := c4.trans (by
    refine XS.astoreN X3.here hexec rfl (hb hbytes d3) rfl rfl rfl ?_
    refine XS.aloadN X3.here hexec rfl (hb hbytes d4) rfl rfl ?_
    refine XS.iloadN X3.here hexec rfl (hb hbytes d5) rfl ?_
    refine XS.aloadN X3.here hexec rfl (hb hbytes d6) rfl rfl ?_
    refine iconstV X3.here hexec rfl 0 (hb hbytes d7) (by decide) ?_
    refine XS.iloadN X3.here hexec rfl (hb hbytes d8) rfl ?_
    exact Steps.refl _)
  obtain ⟨v6, T6, X6, E6, g6⟩ := X3.callS hexec (Cmp5.law l b A s.heap.size B3 o 0 len) hown (wks W (staticW U16 115 Cmp5.yN)) (wk W Cmp5.tab) (W := 0) (Nat.le_of_ble_eq_true rfl) (Nat.le_of_ble_eq_true rfl) (Nat.le_refl _) (by show 0 + len + 0 ≤ len; omega) (g := (mkF m 9 #[.val (.ref b), .val (.int (Int32.ofNat o)), .val (.int (Int32.ofNat len)), .val (.ref s.heap.size), .unset, .unset] [.int (Int32.ofNat len), .int (Int32.ofNat 0), .ref s.heap.size, .int (Int32.ofNat o), .ref b])) rfl (by rw [hml]; rfl) c5 (argsL := [.ref b, .int (Int32.ofNat o), .ref s.heap.size, .int (Int32.ofNat 0), .int (Int32.ofNat len)]) (rest := []) rfl rfl (by show 2 * 0 + 0 ≤ _; decide) (hb hbytes d9) (⟨rfl, hA3, ba3, hne, l1, by rw [bs3]; simp, hp⟩)
  obtain ⟨rfl, B6, p6, f6⟩ := E6
  have c7 : Steps p.tables e below (s₁.setTop (entryFrame m #[.ref b, .int (Int32.ofNat o), .int (Int32.ofNat len)] 6)) (T6.setTop (mkF m 12 #[.val (.ref b), .val (.int (Int32.ofNat o)), .val (.int (Int32.ofNat len)), .val (.ref s.heap.size), .unset, .unset] [.int (Int32.ofNat len)])) := g6
  have c8 : Steps p.tables e below (s₁.setTop (entryFrame m #[.ref b, .int (Int32.ofNat o), .int (Int32.ofNat len)] 6)) (T6.setTop (mkF m 58 #[.val (.ref b), .val (.int (Int32.ofNat o)), .val (.int (Int32.ofNat len)), .val (.ref s.heap.size), .val (.int (Int32.ofNat len)), .unset] [.ref s.heap.size])) := c7.trans (by
    refine XS.istore X6.here hexec rfl (hb hbytes d12) rfl rfl ?_
    refine XS.iload X6.here hexec rfl (hb hbytes d14) rfl ?_
    refine XS.iloadN X6.here hexec rfl (hb hbytes d16) rfl ?_
    refine XS.icmpYes X6.here hexec rfl (pc0 := 17) rfl (hb hbytes d17) rfl (ii_eq_t rfl) (by decide) rfl ?_
    refine XS.aloadN X6.here hexec rfl (hb hbytes d57) rfl rfl ?_
    exact Steps.refl _)
  have X8 := X6.wide (L' := []) (cells' := 1) (slots' := len) (fun x hx hlt => by
    simp only [List.nil_append, copyLocs, List.mem_map, List.mem_range] at hx
    obtain ⟨i, -, rfl⟩ := hx
    exact absurd hlt (Nat.lt_irrefl _)) (Nat.le_refl _) (by omega)
  exact ⟨T6, some (.ref s.heap.size), _, _, _, X8, rfl, rfl, rfl, (fun h => by cases h), ⟨⟨rfl, B6, ba3.like (X3.warmed.alike.symm.trans X6.warmed.alike) p6.1 f6.1 f6.2.1 f6.2.2.1, f6.2.1.trans bv3, by rw [X6.warmed.alike.findClass, f6.1]; exact bf3, by rw [f6.2.2.1, bs3]; simp, fun j hj => by rw [f6.2.2.2 j, if_pos (by omega)]; rfl, kp3.put p6 (Nat.le_refl _)⟩, by rw [p6.2.2, bh3, hh0]; simp⟩, fun fs hl => c8.trans (X8.areturnOut hexec rfl hret rfl (hb hbytes d58) hl)⟩
end Cmp3
namespace CodL
def yN : MethodName := ⟨"java/lang/StringUTF16", "coderFromArrayLen", "([BI)B"⟩
abbrev yB : ByteArray := jdk_52_method_15_code
theorem d0 : decode yB 0 = .ok (.iload_n 1, 1) := by decide +kernel
theorem d1 : decode yB 1 = .ok (.aload_n 0, 1) := by decide +kernel
theorem d2 : decode yB 2 = .ok (.arraylength, 1) := by decide +kernel
theorem d3 : decode yB 3 = .ok (.isub, 1) := by decide +kernel
theorem d4 : decode yB 4 = .ok (.bipush 31, 2) := by decide +kernel
theorem d6 : decode yB 6 = .ok (.iushr, 1) := by decide +kernel
theorem d7 : decode yB 7 = .ok (.i2b, 1) := by decide +kernel
theorem d8 : decode yB 8 = .ok (.ireturn, 1) := by decide +kernel
def site : List Cond := []
def tab : Cond := tabOf yN yB 2 (some .byte) site
def P (d : Addr) (B : Cell) (args : Array Value) (s : State) : Prop := args = #[.ref d, .int (Int32.ofNat B.slots.size)] ∧ Arr .byte d B s
def E (r : Option Value) (s u : State) : Prop := XT.PureE (some (.int 0)) r s u
/-- an array as long as the number of chars: LATIN1 -/
theorem law (l : Launch) (d : Addr) (B : Cell) : Law l yN 2 2 0 0 yB 2 (some .byte) site (P d B) E [] 0 0 := by
  refine Law.of_walk (plainFor_of_name (by decide +kernel)) (by decide +kernel) (by decide +kernel) (by decide) (fun _ _ h => by rw [h.1]; rfl) (fun _ U U' hal hh h => ⟨h.1, h.2.mv hal hh⟩) (fun r U U' V V' h1 hal h2 h => XT.PureE.mv r U U' V V' h1 hal h2 h) ?_
  intro p e s m args below meth c s₁ X0 hexec hbytes hml hret hlk hnm hown hh0 W hP
  obtain ⟨rfl, hB⟩ := hP
  have hB0 := hB.mv X0.warmed.alike hh0
  have c1 : Steps p.tables e below (s₁.setTop (entryFrame m #[.ref d, .int (Int32.ofNat B.slots.size)] 2)) (s₁.setTop (mkF m 0 #[.val (.ref d), .val (.int (Int32.ofNat B.slots.size))] [])) := entry rfl
  have c2 : Steps p.tables e below (s₁.setTop (entryFrame m #[.ref d, .int (Int32.ofNat B.slots.size)] 2)) (s₁.setTop (mkF m 2 #[.val (.ref d), .val (.int (Int32.ofNat B.slots.size))] [.ref d, .int (Int32.ofNat B.slots.size)])) := c1.trans (by
    refine XS.iloadN X0.here hexec rfl (hb hbytes d0) rfl ?_
    refine XS.aloadN X0.here hexec rfl (hb hbytes d1) rfl rfl ?_
    exact Steps.refl _)
  have c3 : Steps p.tables e below (s₁.setTop (entryFrame m #[.ref d, .int (Int32.ofNat B.slots.size)] 2)) (s₁.setTop (mkF m 8 #[.val (.ref d), .val (.int (Int32.ofNat B.slots.size))] [.int (lo8 (ushr (Int32.ofNat B.slots.size - Int32.ofNat B.slots.size) 31))])) := c2.trans (by
    refine X0.alen hexec hB0 rfl rfl (hb hbytes d2) ?_
    refine XS.isub X0.here hexec rfl (hb hbytes d3) rfl ?_
    refine bipushV X0.here hexec rfl 31 (hb hbytes d4) (by decide) ?_
    refine iushr X0.here hexec rfl (hb hbytes d6) rfl ?_
    refine i2b X0.here hexec rfl (hb hbytes d7) rfl ?_
    exact Steps.refl _)
  have e0 : lo8 (ushr (Int32.ofNat B.slots.size - Int32.ofNat B.slots.size) 31) = 0 := by rw [Int32.sub_self]; decide
  rw [e0] at c3
  exact ⟨s₁, some (.int 0), _, _, _, X0, rfl, rfl, rfl, (fun h => by cases h), ⟨rfl, hh0⟩, fun fs hl => c3.trans (X0.ireturnOut hexec hret rfl (Or.inr (Or.inr (Or.inl rfl))) (hb hbytes d8) hl)⟩
end CodL
/-- the String at a is Latin-1 over a new byte[] (the heap's one new cell): the low bytes of the len chars of A from o on; every cell but a is kept -/
def Got (a : Addr) (D : Cell) (fV fC : Field) (A : Cell) (o len : Nat) (r : Option Value) (s u : State) : Prop := r = none ∧ ∃ D' V : Cell, Blank "java/lang/String" a D' u ∧ Same D D' [fV.slot, fC.slot] ∧ D'.slots[fV.slot]? = some (.ref s.heap.size) ∧ D'.slots[fC.slot]? = some (.int 0) ∧ Arr .byte s.heap.size V u ∧ V.vm = .none ∧ u.vm.findClass "[B" = some V.cls ∧ V.slots.size = len ∧ (∀ j, j < len → V.slots[j]? = some (.int (lo8 (cv A (o + j))))) ∧ (∀ (y : Addr) (c : Cell), y ≠ a → s.heap[y]? = some c → u.heap[y]? = some c) ∧ u.heap.size = s.heap.size + 1
theorem Got.mv {a : Addr} {D A : Cell} {fV fC : Field} {o len : Nat} : ∀ r (U U' V V' : State), U'.heap = U.heap → V.vm.Alike V'.vm → V'.heap = V.heap → Got a D fV fC A o len r U V → Got a D fV fC A o len r U' V' :=
  fun r U U' V V' h1 hal h2 ⟨e0, D', X, a1, a2, a3, a4, a5, a6, a7, a8, a9, a10, a11⟩ => ⟨e0, D', X, a1.mv hal h2, a2, by rw [h1]; exact a3, a4, by rw [h1]; exact a5.mv hal h2, a6, by rw [hal.findClass]; exact a7, a8, a9, by rw [h1, h2]; exact a10, by rw [h1, h2]; exact a11⟩
namespace New4
def yN : MethodName := ⟨"java/lang/String", "<init>", "([CIILjava/lang/Void;)V"⟩
abbrev yB : ByteArray := jdk_42_method_149_code
theorem d0 : decode yB 0 = .ok (.aload_n 0, 1) := by decide +kernel
theorem d1 : decode yB 1 = .ok (.invokespecial 1, 3) := by decide +kernel
theorem d4 : decode yB 4 = .ok (.iload_n 3, 1) := by decide +kernel
theorem d5 : decode yB 5 = .ok (.ifCond (.ne) 22, 3) := by decide +kernel
theorem d27 : decode yB 27 = .ok (.getstatic 38, 3) := by decide +kernel
theorem d30 : decode yB 30 = .ok (.ifCond (.eq) 28, 3) := by decide +kernel
theorem d33 : decode yB 33 = .ok (.aload_n 1, 1) := by decide +kernel
theorem d34 : decode yB 34 = .ok (.iload_n 2, 1) := by decide +kernel
theorem d35 : decode yB 35 = .ok (.iload_n 3, 1) := by decide +kernel
theorem d36 : decode yB 36 = .ok (.invokestatic 177, 3) := by decide +kernel
theorem d39 : decode yB 39 = .ok (.astore 5, 2) := by decide +kernel
theorem d41 : decode yB 41 = .ok (.aload_n 0, 1) := by decide +kernel
theorem d42 : decode yB 42 = .ok (.aload 5, 2) := by decide +kernel
theorem d44 : decode yB 44 = .ok (.iload_n 3, 1) := by decide +kernel
theorem d45 : decode yB 45 = .ok (.invokestatic 47, 3) := by decide +kernel
theorem d48 : decode yB 48 = .ok (.putfield 15, 3) := by decide +kernel
theorem d51 : decode yB 51 = .ok (.aload_n 0, 1) := by decide +kernel
theorem d52 : decode yB 52 = .ok (.aload 5, 2) := by decide +kernel
theorem d54 : decode yB 54 = .ok (.putfield 9, 3) := by decide +kernel
theorem d57 : decode yB 57 = .ok (.return_, 1) := by decide +kernel
def site : List Cond := [.fieldLink "java/lang/String" 38 "java/lang/String" "COMPACT_STRINGS" "Z", Cmp3.tab, CodL.tab, .laysFinal "java/lang/String" "java/lang/String" "value" "[B", .fieldLink "java/lang/String" 9 "java/lang/String" "value" "[B", .laysFinal "java/lang/String" "java/lang/String" "coder" "B", .fieldLink "java/lang/String" 15 "java/lang/String" "coder" "B"] ++ objW "java/lang/String" 1 ++ staticW "java/lang/String" 177 Cmp3.yN ++ staticW "java/lang/String" 47 CodL.yN
def tab : Cond := tabOf yN yB 6 none site
def P (a : Addr) (D : Cell) (fV fC : Field) (b : Addr) (A : Cell) (z : Int32) (o len : Nat) (args : Array Value) (s : State) : Prop := args = #[.ref a, .ref b, .int (Int32.ofNat o), .int (Int32.ofNat len), .null] ∧ Blank "java/lang/String" a D s ∧ Found "java/lang/String" "value" "[B" fV s ∧ Found "java/lang/String" "coder" "B" fC s ∧ Ch b A s ∧ StaticIs s "java/lang/String" "COMPACT_STRINGS" "Z" (.int z) ∧ ¬ z = 0 ∧ 0 < len ∧ o + len ≤ A.slots.size ∧ len ≤ 536870912 ∧ ∀ i, i < len → ¬ 255 < cv A (o + i)
def E (a : Addr) (D : Cell) (fV fC : Field) (A : Cell) (o len : Nat) (r : Option Value) (s u : State) : Prop := Got a D fV fC A o len r s u
/-- len > 0, no char of the range above 255: a Latin-1 String of their low bytes -/
theorem law (l : Launch) (a : Addr) (D : Cell) (fV fC : Field) (b : Addr) (A : Cell) (z : Int32) (o len : Nat) : Law l yN 5 4 2 35 yB 6 none site (P a D fV fC b A z o len) (E a D fV fC A o len) [⟨a, fC.slot⟩, ⟨a, fV.slot⟩] 1 len := by
  refine Law.of_walk (plainFor_of_name (by decide +kernel)) (by decide +kernel) (by decide +kernel) (by decide) (fun _ _ h => by rw [h.1]; rfl) (fun _ U U' hal hh h => ⟨h.1, h.2.1.mv hal hh, h.2.2.1.al hal, h.2.2.2.1.al hal, h.2.2.2.2.1.mv hal hh, h.2.2.2.2.2.1.there hal hh, h.2.2.2.2.2.2⟩) (fun r U U' V V' h1 hal h2 h => Got.mv r U U' V V' h1 hal h2 h) ?_
  intro p e s m args below meth c s₁ X0 hexec hbytes hml hret hlk hnm hown hh0 W hP
  obtain ⟨rfl, hB, f1, f2, hA, s1, hz, l0, l1, l2, hp⟩ := hP
  have a31 := hA.1.2.2.2
  have c1 : Steps p.tables e below (s₁.setTop (entryFrame m #[.ref a, .ref b, .int (Int32.ofNat o), .int (Int32.ofNat len), .null] 6)) (s₁.setTop (mkF m 0 #[.val (.ref a), .val (.ref b), .val (.int (Int32.ofNat o)), .val (.int (Int32.ofNat len)), .val .null, .unset] [])) := entry rfl
  have c2 : Steps p.tables e below (s₁.setTop (entryFrame m #[.ref a, .ref b, .int (Int32.ofNat o), .int (Int32.ofNat len), .null] 6)) (s₁.setTop (mkF m 1 #[.val (.ref a), .val (.ref b), .val (.int (Int32.ofNat o)), .val (.int (Int32.ofNat len)), .val .null, .unset] [.ref a])) := c1.trans (by
    refine XS.aloadN X0.here hexec rfl (hb hbytes d0) rfl rfl ?_
    exact Steps.refl _)
  obtain ⟨T3, X3, q3, st3⟩ := X0.oinit hexec hown (wks W (objW "java/lang/String" 1)) (g := (mkF m 1 #[.val (.ref a), .val (.ref b), .val (.int (Int32.ofNat o)), .val (.int (Int32.ofNat len)), .val .null, .unset] [.ref a])) rfl (by rw [hml]; rfl) (rest := []) rfl (hb hbytes d1) (W := 0) (by show 2 * 0 + 0 ≤ _; decide) (Nat.le_of_ble_eq_true rfl) (Nat.le_of_ble_eq_true rfl)
  have hh3 := q3.trans hh0
  have c4 : Steps p.tables e below (s₁.setTop (entryFrame m #[.ref a, .ref b, .int (Int32.ofNat o), .int (Int32.ofNat len), .null] 6)) (T3.setTop (mkF m 27 #[.val (.ref a), .val (.ref b), .val (.int (Int32.ofNat o)), .val (.int (Int32.ofNat len)), .val .null, .unset] [])) := (c2.trans (st3 _ (Steps.refl _))).trans (by
    refine XS.iloadN X3.here hexec rfl (hb hbytes d4) rfl ?_
    refine XS.ifYes X3.here hexec rfl (pc0 := 5) rfl (hb hbytes d5) rfl (i0_ne_t (nz32 (by omega) l0)) (by decide) rfl ?_
    exact Steps.refl _)
  obtain ⟨T5, X5, q5, st5⟩ := X3.sget hexec hown (wk W (.fieldLink "java/lang/String" 38 "java/lang/String" "COMPACT_STRINGS" "Z")) s1 (fun _ _ h => by rw [hh3]; exact h) (g := (mkF m 27 #[.val (.ref a), .val (.ref b), .val (.int (Int32.ofNat o)), .val (.int (Int32.ofNat len)), .val .null, .unset] [])) rfl (hb hbytes d27)
  have hh5 := q5.trans hh3
  have c6 : Steps p.tables e below (s₁.setTop (entryFrame m #[.ref a, .ref b, .int (Int32.ofNat o), .int (Int32.ofNat len), .null] 6)) (T5.setTop (mkF m 30 #[.val (.ref a), .val (.ref b), .val (.int (Int32.ofNat o)), .val (.int (Int32.ofNat len)), .val .null, .unset] [.int z])) := c4.trans (st5 _ (Steps.refl _))
  have c7 : Steps p.tables e below (s₁.setTop (entryFrame m #[.ref a, .ref b, .int (Int32.ofNat o), .int (Int32.ofNat len), .null] 6)) (T5.setTop (mkF m 36 #[.val (.ref a), .val (.ref b), .val (.int (Int32.ofNat o)), .val (.int (Int32.ofNat len)), .val .null, .unset] [.int (Int32.ofNat len), .int (Int32.ofNat o), .ref b])) := c6.trans (by
    refine XS.ifNo X5.here hexec rfl (hb hbytes d30) rfl (i0_eq_f hz) ?_
    refine XS.aloadN X5.here hexec rfl (hb hbytes d33) rfl rfl ?_
    refine XS.iloadN X5.here hexec rfl (hb hbytes d34) rfl ?_
    refine XS.iloadN X5.here hexec rfl (hb hbytes d35) rfl ?_
    exact Steps.refl _)
  obtain ⟨v8, T8, X8, E8, g8⟩ := X5.callS hexec (Cmp3.law l b A o len) hown (wks W (staticW "java/lang/String" 177 Cmp3.yN)) (wk W Cmp3.tab) (W := 0) (Nat.le_of_ble_eq_true rfl) (Nat.le_of_ble_eq_true rfl) (Nat.le_refl _) (by show 0 + len ≤ len; omega) (g := (mkF m 36 #[.val (.ref a), .val (.ref b), .val (.int (Int32.ofNat o)), .val (.int (Int32.ofNat len)), .val .null, .unset] [.int (Int32.ofNat len), .int (Int32.ofNat o), .ref b])) rfl (by rw [hml]; rfl) c7 (argsL := [.ref b, .int (Int32.ofNat o), .int (Int32.ofNat len)]) (rest := []) rfl rfl (by show 2 * 0 + 0 ≤ _; decide) (hb hbytes d36) (⟨rfl, hA.mv X5.warmed.alike hh5, l1, l2, hp⟩)
  obtain ⟨e8, z8⟩ := E8
  obtain ⟨rfl, N, n1, n2, n3, n4, n5, n6⟩ := NewArr.mv _ T5 s _ _ hh5.symm (Vm.Alike.refl _) rfl e8
  rw [hh5] at z8
  have hB1 := hB.keep X8.warmed.alike (n6 _ _ hB.1)
  have hne : s.heap.size ≠ a := (Nat.ne_of_lt (Array.getElem?_eq_some_iff.mp hB.1).1).symm
  have c9 : Steps p.tables e below (s₁.setTop (entryFrame m #[.ref a, .ref b, .int (Int32.ofNat o), .int (Int32.ofNat len), .null] 6)) (T8.setTop (mkF m 39 #[.val (.ref a), .val (.ref b), .val (.int (Int32.ofNat o)), .val (.int (Int32.ofNat len)), .val .null, .unset] [.ref s.heap.size])) := g8
  have c10 : Steps p.tables e below (s₁.setTop (entryFrame m #[.ref a, .ref b, .int (Int32.ofNat o), .int (Int32.ofNat len), .null] 6)) (T8.setTop (mkF m 45 #[.val (.ref a), .val (.ref b), .val (.int (Int32.ofNat o)), .val (.int (Int32.ofNat len)), .val .null, .val (.ref s.heap.size)] [.int (Int32.ofNat N.slots.size), .ref s.heap.size, .ref a])) := by
    have hc : Steps p.tables e below (s₁.setTop (entryFrame m #[.ref a, .ref b, .int (Int32.ofNat o), .int (Int32.ofNat len), .null] 6)) (T8.setTop (mkF m 45 #[.val (.ref a), .val (.ref b), .val (.int (Int32.ofNat o)), .val (.int (Int32.ofNat len)), .val .null, .val (.ref s.heap.size)] [.int (Int32.ofNat len), .ref s.heap.size, .ref a])) := c9.trans (by
      refine XS.astore X8.here hexec rfl (hb hbytes d39) rfl rfl rfl ?_
      refine XS.aloadN X8.here hexec rfl (hb hbytes d41) rfl rfl ?_
      refine XS.aload X8.here hexec rfl (hb hbytes d42) rfl rfl ?_
      refine XS.iloadN X8.here hexec rfl (hb hbytes d44) rfl ?_
      exact Steps.refl _)
    rw [n4]; exact hc
  obtain ⟨v11, T11, X11, E11, g11⟩ := X8.callS hexec (CodL.law l s.heap.size N) hown (wks W (staticW "java/lang/String" 47 CodL.yN)) (wk W CodL.tab) (W := 1) (Nat.le_of_ble_eq_true rfl) (Nat.le_of_ble_eq_true rfl) (Nat.le_refl _) (by show 0 + len + 0 ≤ len; omega) (g := (mkF m 45 #[.val (.ref a), .val (.ref b), .val (.int (Int32.ofNat o)), .val (.int (Int32.ofNat len)), .val .null, .val (.ref s.heap.size)] [.int (Int32.ofNat N.slots.size), .ref s.heap.size, .ref a])) rfl (by rw [hml]; rfl) c10 (argsL := [.ref s.heap.size, .int (Int32.ofNat N.slots.size)]) (rest := [.ref a]) rfl rfl (by show 2 * 0 + (1 + 0) ≤ _; decide) (hb hbytes d45) (⟨rfl, n1⟩)
  obtain ⟨rfl, q11⟩ := E11
  have hB11 := hB1.mv (X8.warmed.alike.symm.trans X11.warmed.alike) q11
  have c12 : Steps p.tables e below (s₁.setTop (entryFrame m #[.ref a, .ref b, .int (Int32.ofNat o), .int (Int32.ofNat len), .null] 6)) (T11.setTop (mkF m 48 #[.val (.ref a), .val (.ref b), .val (.int (Int32.ofNat o)), .val (.int (Int32.ofNat len)), .val .null, .val (.ref s.heap.size)] [.int 0, .ref a])) := g11
  obtain ⟨T13, X13, p13, bl13, sl13, st13⟩ := X11.finit hexec hown (wk W (.fieldLink "java/lang/String" 15 "java/lang/String" "coder" "B")) (Or.inr ⟨_, (wk W (.laysFinal "java/lang/String" "java/lang/String" "coder" "B"))⟩) (Or.inl ⟨rfl, hnm⟩) f2 (Or.inl rfl) hB11 (t := .byte) (by decide +kernel) rfl (g := (mkF m 48 #[.val (.ref a), .val (.ref b), .val (.int (Int32.ofNat o)), .val (.int (Int32.ofNat len)), .val .null, .val (.ref s.heap.size)] [.int 0, .ref a])) rfl (rest := []) rfl (hb hbytes d48)
  have c14 : Steps p.tables e below (s₁.setTop (entryFrame m #[.ref a, .ref b, .int (Int32.ofNat o), .int (Int32.ofNat len), .null] 6)) (T13.setTop (mkF m 54 #[.val (.ref a), .val (.ref b), .val (.int (Int32.ofNat o)), .val (.int (Int32.ofNat len)), .val .null, .val (.ref s.heap.size)] [.ref s.heap.size, .ref a])) := (c12.trans (st13 _ (Steps.refl _))).trans (by
    refine XS.aloadN X13.here hexec rfl (hb hbytes d51) rfl rfl ?_
    refine XS.aload X13.here hexec rfl (hb hbytes d52) rfl rfl ?_
    exact Steps.refl _)
  obtain ⟨T15, X15, p15, bl15, sl15, st15⟩ := X13.finit hexec hown (wk W (.fieldLink "java/lang/String" 9 "java/lang/String" "value" "[B")) (Or.inr ⟨_, (wk W (.laysFinal "java/lang/String" "java/lang/String" "value" "[B"))⟩) (Or.inl ⟨rfl, hnm⟩) f1 (Or.inl rfl) bl13 (t := (.array .byte)) (by decide +kernel) rfl (g := (mkF m 54 #[.val (.ref a), .val (.ref b), .val (.int (Int32.ofNat o)), .val (.int (Int32.ofNat len)), .val .null, .val (.ref s.heap.size)] [.ref s.heap.size, .ref a])) rfl (rest := []) rfl (hb hbytes d54)
  have c16 : Steps p.tables e below (s₁.setTop (entryFrame m #[.ref a, .ref b, .int (Int32.ofNat o), .int (Int32.ofNat len), .null] 6)) (T15.setTop (mkF m 57 #[.val (.ref a), .val (.ref b), .val (.int (Int32.ofNat o)), .val (.int (Int32.ofNat len)), .val .null, .val (.ref s.heap.size)] [])) := c14.trans (st15 _ (Steps.refl _))
  have ap := apart (Or.inr ⟨_, (wk W (.laysFinal "java/lang/String" "java/lang/String" "value" "[B"))⟩) (Or.inr ⟨_, (wk W (.laysFinal "java/lang/String" "java/lang/String" "coder" "B"))⟩) f1 f2 (t₁ := .array .byte) (t₂ := .byte) (by decide +kernel) (by decide +kernel) (by decide)
  have al := X8.warmed.alike.symm.trans X15.warmed.alike
  have n7 : T11.heap[s.heap.size]? = some N := by rw [q11]; exact n1.1
  exact ⟨T15, none, _, _, _, X15, by simp, rfl, by omega, (fun _ => rfl), ⟨rfl, _, N, bl15, ((Same.refl D _).set _ (by simp)).set _ (by simp), sl15, (Cell.slots_setSlot_ne _ ap).trans sl13, n1.keep al (p15.other hne (p13.other hne n7)), n2, by rw [al.findClass]; exact n3, n4, n5, fun y c h1 h2 => p15.other h1 (p13.other h1 (by rw [q11]; exact n6 y c h2)), by rw [p15.2.2, p13.2.2, q11]; exact z8⟩, fun fs hl => c16.trans (X15.returnOut hexec hret (hb hbytes d57) hl)⟩
end New4
namespace New1
def yN : MethodName := ⟨"java/lang/String", "<init>", "([C)V"⟩
abbrev yB : ByteArray := jdk_42_method_3_code
theorem d0 : decode yB 0 = .ok (.aload_n 0, 1) := by decide +kernel
theorem d1 : decode yB 1 = .ok (.aload_n 1, 1) := by decide +kernel
theorem d2 : decode yB 2 = .ok (.iconst 0, 1) := by decide +kernel
theorem d3 : decode yB 3 = .ok (.aload_n 1, 1) := by decide +kernel
theorem d4 : decode yB 4 = .ok (.arraylength, 1) := by decide +kernel
theorem d5 : decode yB 5 = .ok (.aconst_null, 1) := by decide +kernel
theorem d6 : decode yB 6 = .ok (.invokespecial 27, 3) := by decide +kernel
theorem d9 : decode yB 9 = .ok (.return_, 1) := by decide +kernel
def site : List Cond := [New4.tab] ++ initW "java/lang/String" 27 New4.yN
def tab : Cond := tabOf yN yB 2 none site
def P (a : Addr) (D : Cell) (fV fC : Field) (b : Addr) (A : Cell) (z : Int32) (args : Array Value) (s : State) : Prop := args = #[.ref a, .ref b] ∧ Blank "java/lang/String" a D s ∧ Found "java/lang/String" "value" "[B" fV s ∧ Found "java/lang/String" "coder" "B" fC s ∧ Ch b A s ∧ StaticIs s "java/lang/String" "COMPACT_STRINGS" "Z" (.int z) ∧ ¬ z = 0 ∧ 0 < A.slots.size ∧ A.slots.size ≤ 536870912 ∧ ∀ i, i < A.slots.size → ¬ 255 < cv A i
def E (a : Addr) (D : Cell) (fV fC : Field) (A : Cell) (r : Option Value) (s u : State) : Prop := Got a D fV fC A 0 A.slots.size r s u
/-- new String(chars), not empty, no char above 255: a Latin-1 String of their low bytes -/
theorem law (l : Launch) (a : Addr) (D : Cell) (fV fC : Field) (b : Addr) (A : Cell) (z : Int32) : Law l yN 2 1 3 52 yB 2 none site (P a D fV fC b A z) (E a D fV fC A) [⟨a, fC.slot⟩, ⟨a, fV.slot⟩] 1 A.slots.size := by
  refine Law.of_walk (plainFor_of_name (by decide +kernel)) (by decide +kernel) (by decide +kernel) (by decide) (fun _ _ h => by rw [h.1]; rfl) (fun _ U U' hal hh h => ⟨h.1, h.2.1.mv hal hh, h.2.2.1.al hal, h.2.2.2.1.al hal, h.2.2.2.2.1.mv hal hh, h.2.2.2.2.2.1.there hal hh, h.2.2.2.2.2.2⟩) (fun r U U' V V' h1 hal h2 h => Got.mv r U U' V V' h1 hal h2 h) ?_
  intro p e s m args below meth c s₁ X0 hexec hbytes hml hret hlk hnm hown hh0 W hP
  obtain ⟨rfl, hB, f1, f2, hA, s1, hz, l0, l2, hp⟩ := hP
  have c1 : Steps p.tables e below (s₁.setTop (entryFrame m #[.ref a, .ref b] 2)) (s₁.setTop (mkF m 0 #[.val (.ref a), .val (.ref b)] [])) := entry rfl
  have c2 : Steps p.tables e below (s₁.setTop (entryFrame m #[.ref a, .ref b] 2)) (s₁.setTop (mkF m 6 #[.val (.ref a), .val (.ref b)] [.null, .int (Int32.ofNat A.slots.size), .int 0, .ref b, .ref a])) := c1.trans (by
    refine XS.aloadN X0.here hexec rfl (hb hbytes d0) rfl rfl ?_
    refine XS.aloadN X0.here hexec rfl (hb hbytes d1) rfl rfl ?_
    refine iconstV X0.here hexec rfl 0 (hb hbytes d2) (by decide) ?_
    refine XS.aloadN X0.here hexec rfl (hb hbytes d3) rfl rfl ?_
    refine X0.alen hexec (hA.1.mv X0.warmed.alike hh0) rfl rfl (hb hbytes d4) ?_
    refine XS.aconstNull X0.here hexec rfl (hb hbytes d5) ?_
    exact Steps.refl _)
  obtain ⟨v3, T3, X3, E3, g3⟩ := X0.callN hexec (New4.law l a D fV fC b A z 0 A.slots.size) rfl hown (wks W (initW "java/lang/String" 27 New4.yN)) (W New4.tab (by simp only [site, List.mem_cons, List.mem_append, true_or, or_true])) (W := 0) (Nat.le_of_ble_eq_true rfl) (Nat.le_of_ble_eq_true rfl) (Nat.le_refl _) (by show 0 + A.slots.size ≤ A.slots.size; omega) (g := (mkF m 6 #[.val (.ref a), .val (.ref b)] [.null, .int (Int32.ofNat A.slots.size), .int (Int32.ofNat 0), .ref b, .ref a])) rfl (by rw [hml]; rfl) c2 (argsL := [.ref b, .int (Int32.ofNat 0), .int (Int32.ofNat A.slots.size), .null]) (rest := []) rfl rfl (by show 2 * 0 + 0 ≤ _; decide) (hb hbytes d6) (⟨rfl, hB.mv X0.warmed.alike hh0, f1.al X0.warmed.alike, f2.al X0.warmed.alike, hA.mv X0.warmed.alike hh0, s1.there X0.warmed.alike hh0, hz, l0, by omega, l2, fun i hi => by rw [Nat.zero_add]; exact hp i hi⟩)
  have e0 := Got.mv _ s₁ s _ _ hh0.symm (Vm.Alike.refl _) rfl E3
  obtain rfl := e0.1
  have c4 : Steps p.tables e below (s₁.setTop (entryFrame m #[.ref a, .ref b] 2)) (T3.setTop (mkF m 9 #[.val (.ref a), .val (.ref b)] [])) := g3
  exact ⟨T3, none, _, _, _, X3, by simp, rfl, by omega, (fun _ => rfl), e0, fun fs hl => c4.trans (X3.returnOut hexec hret (hb hbytes d9) hl)⟩
theorem pays {l : Launch} {R : Room} {p : Program} {e : Env} {below : List Frame} {s : State} {sargs : Array Value} {len W : Nat} (a : Addr) (D : Cell) (fV fC : Field) (b : Addr) (A : Cell) (z : Int32) (htab : tab.before sargs s = true) (hfr : 4 ≤ R.frames) (hlo : W + 65 ≤ R.locals) :
    Back l R p e below s sargs yN len W (fun A₁ a₁ => A₁.cells + 1 ≤ R.cells ∧ A₁.slots + A.slots.size ≤ R.slots ∧ P a D fV fC b A z a₁ A₁.U) (fun A₁ _ v₁ B₁ => E a D fV fC A v₁ A₁.U B₁.U ∧ B₁.locs = A₁.locs ++ [⟨a, fC.slot⟩, ⟨a, fV.slot⟩] ∧ B₁.cells = A₁.cells + 1 ∧ B₁.slots = A₁.slots + A.slots.size) :=
  (law l a D fV fC b A z).pays htab hfr (by omega)
end New1
/-- the byte, read back as charAt reads it, is the char -/
theorem lo8_mask {x : Int32} (h0 : ¬ x < 0) (h1 : ¬ 255 < x) : lo8 x &&& 255 = x := by
  have t : ∀ k : Fin 256, lo8 (Int32.ofNat k.val) &&& 255 = Int32.ofNat k.val := by decide +kernel
  rw [Int32.lt_iff_toInt_lt] at h0 h1
  have e0 : (0 : Int32).toInt = 0 := rfl
  have e1 : (255 : Int32).toInt = 255 := rfl
  obtain ⟨k, hk⟩ : ∃ k : Nat, x.toInt = k := ⟨x.toInt.toNat, by omega⟩
  have hx : x = Int32.ofNat k := Int32.toInt_inj.mp (by rw [hk, Int32.toInt_ofNat_small (by omega)])
  rw [hx]
  exact t ⟨k, by omega⟩
end StrChars
namespace StrChars.Road
open Jvm Sem ClassFile Op Lib Jvm.Stand Jvm.Free Jvm.Free.XT
open Jvm.Lib.Cold (StaticIs)
abbrev ST : String := "java/lang/String"
/-- every table word that New1's law asks, flat -/
abbrev words : List Jvm.Cond := [.code New1.yN New1.yB 2 none, .initialized ST, .methodLink ST 27 New4.yN, .instanceMethod New4.yN,
  .code New4.yN New4.yB 6 none, .fieldLink ST 38 ST "COMPACT_STRINGS" "Z", .laysFinal ST ST "value" "[B", .fieldLink ST 9 ST "value" "[B", .laysFinal ST ST "coder" "B", .fieldLink ST 15 ST "coder" "B",
  .methodLink ST 1 Lib.objectInit, .instanceMethod Lib.objectInit, .code Lib.objectInit ⟨#[0xb1]⟩ 1 none, .methodLink ST 177 Cmp3.yN, .static Cmp3.yN, .methodLink ST 47 CodL.yN, .static CodL.yN,
  .code Cmp3.yN Cmp3.yB 6 (some (.array .byte)), .initialized U16, .arrayClass .byte, .methodLink U16 115 Cmp5.yN, .static Cmp5.yN, .code Cmp5.yN Cmp5.yB 7 (some .int), .code CodL.yN CodL.yB 2 (some .byte)]
theorem tab_of {a : Array Value} {s : State} (h : ∀ w ∈ words, w.before a s = true) : New1.tab.before a s = true := by
  have h5 : Cmp5.tab.before a s = true := unparts (wk h (.code Cmp5.yN Cmp5.yB 7 (some .int))) (wks h (.initialized Cmp5.yN.cls :: Cmp5.site))
  have hc : CodL.tab.before a s = true := unparts (wk h (.code CodL.yN CodL.yB 2 (some .byte))) (wks h (.initialized CodL.yN.cls :: CodL.site))
  have q5 : ∀ w ∈ Cmp5.tab :: words, w.before a s = true := fun w hw => (List.mem_cons.mp hw).elim (fun e => e ▸ h5) (h w)
  have h3 : Cmp3.tab.before a s = true := unparts (wk q5 (.code Cmp3.yN Cmp3.yB 6 (some (.array .byte)))) (wks q5 (.initialized Cmp3.yN.cls :: Cmp3.site))
  have q3 : ∀ w ∈ Cmp3.tab :: CodL.tab :: words, w.before a s = true := fun w hw => (List.mem_cons.mp hw).elim (fun e => e ▸ h3) fun hw => (List.mem_cons.mp hw).elim (fun e => e ▸ hc) (h w)
  have h4 : New4.tab.before a s = true := unparts (wk q3 (.code New4.yN New4.yB 6 none)) (wks q3 (.initialized New4.yN.cls :: New4.site))
  have q4 : ∀ w ∈ New4.tab :: words, w.before a s = true := fun w hw => (List.mem_cons.mp hw).elim (fun e => e ▸ h4) (h w)
  exact unparts (wk q4 (.code New1.yN New1.yB 2 none)) (wks q4 (.initialized New1.yN.cls :: New1.site))
/-- the words ride from the start Z to the walk's own state -/
theorem moved {Z s : State} {a0 args : Array Value} (hZ : Z.Warmed39 s.vm) (hw : ∀ d ∈ words, d.before a0 Z = true) : ∀ d ∈ words, d.before args s = true := fun d hd => by
  have q := hw d hd
  have t : ∀ d ∈ words, d = .arrayClass .byte ∨ (d.onTables && d.keepsFace) = true := by decide +kernel
  rcases t d hd with rfl | t
  · exact RoadKit.mvA hZ q
  · exact RoadKit.mv hZ q t
/-- WHAT COMES BACK, over the tables of the start Z: h the heap at the call, h' behind it -/
def Q (Z : State) (x : Addr) (A : Cell) (h : Heap) (v : Option Value) (h' : Heap) (L : List Loc) : Prop := v = none ∧ (∀ y ∈ L, y.base = x) ∧ RoadKit.Keep h h' [x] ∧ h'.size = h.size + 1 ∧ RoadKit.Exa Z h' x ST ∧ RoadKit.Fld Z h' x ST "value" "[B" (.ref h.size) ∧ RoadKit.Fld Z h' x ST "coder" "B" (.int 0) ∧
  (∃ V : Cell, RoadKit.Arr Z h' h.size V .byte ∧ V.vm = .none ∧ Z.vm.findClass "[B" = some V.cls ∧ V.slots.size = A.slots.size ∧ ∀ j, j < A.slots.size → V.slots[j]? = some (.int (lo8 (cv A j)))) ∧
  ∀ (O n d : String) (w : Value), RoadKit.Fld Z h x O n d w → RoadKit.slotOf Z O n d ≠ RoadKit.slotOf Z ST "value" "[B" → RoadKit.slotOf Z O n d ≠ RoadKit.slotOf Z ST "coder" "B" → RoadKit.Fld Z h' x O n d w
/-- **new String(chars) AT A CALL, IN THE ROAD'S FORM**: for specialBack behind newO: x the fresh String, b the char[] with the cell A -/
theorem back {p : Program} {l : Launch} {e : Env} {R : Room} {s : State} {args : Array Value} {below : List Frame} {len W : Nat} {Z : State} {a0 : Array Value} {h : Heap} (hZ : Z.Warmed39 s.vm) (hw : ∀ d ∈ words, d.before a0 Z = true) {kI : Nat} (wi : (Jvm.Cond.instantiable ST kI).before a0 Z = true)
    {x b : Addr} {A : Cell} {z : Int32} {v0 c0 : Value} (E : RoadKit.Exa Z h x ST) (V : RoadKit.Fld Z h x ST "value" "[B" v0) (C : RoadKit.Fld Z h x ST "coder" "B" c0) (K : RoadKit.Arr Z h b A .char) (hty : Typed .char A) (S : RoadKit.Sta Z h ST "COMPACT_STRINGS" "Z" (.int z)) (hz : ¬ z = 0)
    (l0 : 0 < A.slots.size) (l2 : A.slots.size ≤ 536870912) (hp : ∀ i, i < A.slots.size → ¬ 255 < cv A i) (hfr : 4 ≤ R.frames) (hlo : W + 65 ≤ R.locals) :
    Back l R p e below s args New1.yN len W (fun P a => a = #[.ref x, .ref b] ∧ P.U.heap = h ∧ P.cells + 1 ≤ R.cells ∧ P.slots + A.slots.size ≤ R.slots)
      (fun P _ v B => ∃ L, Q Z x A h v B.U.heap L ∧ B.locs = P.locs ++ L ∧ B.cells = P.cells + 1 ∧ B.slots = P.slots + A.slots.size) := by
  intro m meth c P g ig mk a X hg hsize hdg hW hn hp'
  obtain ⟨rfl, rfl, r1, r2⟩ := hp'
  have al : Z.vm.Alike P.U.vm := hZ.alike.trans X.warmed.alike
  obtain ⟨D, cfV, kV, iV, fV, hD, gV, stV, knV, obV, asV, slV⟩ := id V
  obtain ⟨D', cfC, kC, iC, fC, hD', gC, stC, -, -, asC, slC⟩ := id C
  cases hD.symm.trans hD'
  obtain ⟨D2, kD, e1, e2, e3, e4, e5⟩ := id E
  cases hD.symm.trans e1
  obtain ⟨c2, k2, i1, i2, i3, -⟩ := Cond.instantiable_spec wi
  cases e2.symm.trans i1
  cases e3.symm.trans i2
  obtain ⟨kU, u1, u2⟩ := al.2.2 _ _ e3
  have hB : Blank ST x D P.U := ⟨hD, ⟨knV, fun q hq => by rw [hq] at obV; cases obV⟩, by rw [al.findClass]; exact e2, kU, u1, by rw [u2]; exact i3, by rw [u2]; exact e5 i3⟩
  have F1 : Found ST "value" "[B" fV P.U := ⟨SBG.found_only al ⟨cfV, kV, iV, gV⟩, stV⟩
  have F2 : Found ST "coder" "B" fC P.U := ⟨SBG.found_only al ⟨cfC, kC, iC, gC⟩, stC⟩
  have hA : Ch b A P.U := ⟨⟨K.1, State.isArrayOf_alike al K.2.1, K.2.2, by omega⟩, hty⟩
  have hS : StaticIs P.U ST "COMPACT_STRINGS" "Z" (.int z) := by
    obtain ⟨cfS, iS, kS, fS, st, cS, t1, t2, t3, t4, t5, t6, t7⟩ := S
    exact StaticIs.there (s := { Z with heap := P.U.heap }) ⟨cfS, iS, kS, fS, st, cS, t1, t2, t3, t4, t5, (fun q => by rw [q] at t6; cases t6), t7⟩ al rfl
  obtain ⟨v, B, X', ⟨⟨hv, E', V', q1, q2, q3, q4, q5, q6, q7, q8, q9, q10, q11⟩, hl, hc, hs⟩, st⟩ := New1.pays x D fV fC b A z (tab_of (moved hZ hw)) hfr hlo m meth c P g ig mk _ X hg hsize hdg hW hn ⟨r1, r2, rfl, hB, F1, F2, hA, hS, hz, l0, l2, hp⟩
  have al' : Z.vm.Alike B.U.vm := hZ.alike.trans X'.warmed.alike
  have hsz : E'.slots.size = D.slots.size := by
    obtain ⟨-, -, -, kB, w1, w2, w3⟩ := q1
    obtain ⟨kB', y1, y2⟩ := al'.2.2 _ _ e3
    rw [q2.2.1] at w1
    cases w1.symm.trans y1
    rw [w3, e5 i3, y2]
  refine ⟨v, B, X', ⟨_, ⟨hv, ?_, ⟨by omega, fun y cy hy hn' => q10 y cy (by simpa using hn') hy, fun y cy hy => ?_⟩, q11, ⟨E', _, q1.1, by rw [q2.2.1]; exact e2, by rw [q2.2.1]; exact e3, by rw [q2.1]; exact obV, fun _ => by rw [hsz]; exact e5 i3⟩,
    ⟨E', cfV, kV, iV, fV, q1.1, gV, stV, by rw [q2.1]; exact knV, by rw [q2.1]; exact obV, by rw [q2.2.1]; exact asV, q3⟩, ⟨E', cfC, kC, iC, fC, q1.1, gC, stC, by rw [q2.1]; exact knV, by rw [q2.1]; exact obV, by rw [q2.2.1]; exact asC, q4⟩,
    ⟨V', ⟨q5.1, State.isArrayOf_alike al'.symm q5.2.1, q5.2.2.1⟩, q6, by rw [← al'.findClass]; exact q7, q8, fun j hj => by have := q9 j hj; rwa [Nat.zero_add] at this⟩, fun O n d w F n1 n2 => ?_⟩, hl, hc, hs⟩, st⟩
  · intro y hy
    simp only [List.mem_cons, List.not_mem_nil, or_false] at hy
    rcases hy with rfl | rfl <;> rfl
  · by_cases q : y = x
    · subst q
      cases hD.symm.trans hy
      exact ⟨E', q1.1, q2.2.1, q2.1, hsz⟩
    · exact ⟨cy, q10 y cy q hy, rfl, rfl, rfl⟩
  · obtain ⟨D3, cf, k, i, f, g1, g2, g3, g4, g5, g6, g7⟩ := F
    cases hD.symm.trans g1
    simp only [RoadKit.slotOf, g2, gV, gC, Option.map_some, Option.getD_some] at n1 n2
    exact ⟨E', cf, k, i, f, q1.1, g2, g3, by rw [q2.1]; exact g4, by rw [q2.1]; exact g5, by rw [q2.2.1]; exact g6, by rw [q2.2.2 f.slot (by simp [n1, n2])]; exact g7⟩
end StrChars.Road
namespace StrChars.Road
open Jvm Sem ClassFile Op Lib Jvm.Stand Jvm.Free Jvm.Free.XT
/-- WHAT COMES BACK, the byte[] as a list of values -/
def QA (Z : State) (x : Addr) (zn : Int32) (cs : List Int32) (h : Heap) (v : Option Value) (h' : Heap) (L : List Loc) : Prop := v = none ∧ (∀ y ∈ L, y.base = x) ∧ RoadKit.Keep h h' [x] ∧ h'.size = h.size + 1 ∧ RoadKit.Exa Z h' x ST ∧ RoadKit.Fld Z h' x ST "value" "[B" (.ref h.size) ∧ RoadKit.Fld Z h' x ST "coder" "B" (.int 0) ∧
  (∃ kb, Z.vm.findClass "[B" = some kb ∧ RoadKit.Arv Z h' h.size kb .byte zn (cs.map fun c => .int (lo8 c)) (.int 0)) ∧
  ∀ (O n d : String) (w : Value), RoadKit.Fld Z h x O n d w → RoadKit.slotOf Z O n d ≠ RoadKit.slotOf Z ST "value" "[B" → RoadKit.slotOf Z O n d ≠ RoadKit.slotOf Z ST "coder" "B" → RoadKit.Fld Z h' x O n d w
/-- **new String(chars) AT A CALL, THE ARRAYS AS LISTS**: the char[] at b holds cs, not empty, no char above 255 -/
theorem backArv {p : Program} {l : Launch} {e : Env} {R : Room} {s : State} {args : Array Value} {below : List Frame} {len W : Nat} {Z : State} {a0 : Array Value} {h : Heap} (hZ : Z.Warmed39 s.vm) (hw : ∀ d ∈ words, d.before a0 Z = true) {kI : Nat} (wi : (Jvm.Cond.instantiable ST kI).before a0 Z = true)
    {x b : Addr} {k : ClassId} {zn z : Int32} {cs : List Int32} {dv v0 c0 : Value} (E : RoadKit.Exa Z h x ST) (V : RoadKit.Fld Z h x ST "value" "[B" v0) (C : RoadKit.Fld Z h x ST "coder" "B" c0) (K : RoadKit.Arv Z h b k .char zn (cs.map Value.int) dv) (S : RoadKit.Sta Z h ST "COMPACT_STRINGS" "Z" (.int z)) (hz : ¬ z = 0)
    (hlen : zn.toNatClampNeg = cs.length) (h0 : 0 < cs.length) (hbig : cs.length ≤ 536870912) (hall : ∀ c ∈ cs, ¬ 255 < c) (hfr : 4 ≤ R.frames) (hlo : W + 65 ≤ R.locals) :
    Back l R p e below s args New1.yN len W (fun P a => a = #[.ref x, .ref b] ∧ P.U.heap = h ∧ P.cells + 1 ≤ R.cells ∧ P.slots + cs.length ≤ R.slots)
      (fun P _ v B => ∃ L, QA Z x zn cs h v B.U.heap L ∧ B.locs = P.locs ++ L ∧ B.cells = P.cells + 1 ∧ B.slots = P.slots + cs.length) := by
  obtain ⟨A, K1, K2, K3, K4, K5, K6⟩ := K
  have e : A.slots.size = cs.length := K3.trans hlen
  have hat : ∀ (i : Nat) (hi : i < cs.length), A.slots[i]? = some (.int cs[i]) := fun i hi => by rw [K5 i (by omega)]; simp [List.getD_eq_getElem?_getD, hi]
  have hcv : ∀ (i : Nat) (hi : i < cs.length), cv A i = cs[i] := fun i hi => by unfold cv; rw [hat i hi]
  have hty : Typed .char A := fun i v hv => by
    have hi : i < A.slots.size := (Array.getElem?_eq_some_iff.mp hv).1
    have q := K5 i hi
    rw [hv] at q
    rw [Option.some.inj q]
    exact K6 i hi
  refine Back.mono (back hZ hw wi E V C K1 hty S hz (by omega) (by omega) (fun i hi => by rw [hcv i (by omega)]; exact hall _ (List.getElem_mem _)) hfr hlo) (fun P a hp => ⟨hp.1, hp.2.1, hp.2.2.1, by rw [e]; exact hp.2.2.2⟩) (fun P a v B hp hq => ?_)
  obtain ⟨L, ⟨q1, q2, q3, q4, q5, q6, q7, ⟨V', v1, v2, v3, v4, v5⟩, q9⟩, hl, hc, hs⟩ := hq
  refine ⟨L, ⟨q1, q2, q3, q4, q5, q6, q7, ⟨V'.cls, v3, V', v1, rfl, by rw [v4, e, hlen], K4, fun i hi => ?_, fun i hi => ?_⟩, q9⟩, hl, hc, by rw [hs, e]⟩
  · have hi' : i < cs.length := by omega
    rw [v5 i (by omega), hcv i hi']; simp [List.getD_eq_getElem?_getD, hi']
  · have hi' : i < cs.length := by omega
    simp only [List.getD_eq_getElem?_getD, List.getElem?_map, List.getElem?_eq_getElem hi', Option.map_some, Option.getD_some]
    exact fits_lo8 _
end StrChars.Road
namespace StrChars.Road
open Jvm Sem ClassFile Op Lib Jvm.Stand Jvm.Free Jvm.Free.XT
/-- WHAT COMES BACK, in the writer's own shape -/
def QV (Z : State) (x : Addr) (N : Int32) (bs : List Int32) (h : Heap) (n0 : Nat) (v : Option Value) (h' : Heap) (L : List Loc) : Prop := v = none ∧ RoadKit.Fr n0 L ∧ RoadKit.Keep h h' [x] ∧ RoadKit.Exa Z h' x ST ∧ RoadKit.Fld Z h' x ST "coder" "B" (.int 0) ∧
  ∃ (t : Addr) (kb : ClassId), n0 ≤ t ∧ h.size ≤ t ∧ ¬ t = x ∧ RoadKit.Fld Z h' x ST "value" "[B" (.ref t) ∧ RoadKit.Arv Z h' t kb .byte N (bs.map Value.int) (.int 0)
/-- **new String(chars) AT A CALL, FOR THE WRITER**: a char[] of n known ints, each 0 to 255 -/
theorem backV {p : Program} {l : Launch} {e : Env} {R : Room} {s : State} {args : Array Value} {below : List Frame} {len W : Nat} {Z : State} {a0 : Array Value} {h : Heap} (hZ : Z.Warmed39 s.vm) (hw : ∀ d ∈ words, d.before a0 Z = true) {kI : Nat} (wi : (Jvm.Cond.instantiable ST kI).before a0 Z = true)
    {x b : Addr} {kC : ClassId} {cs bs : List Int32} {d v0 c0 : Value} {z N : Int32} {n n0 : Nat} (hx0 : n0 ≤ x) (hh0 : n0 ≤ h.size) (E : RoadKit.Exa Z h x ST) (V : RoadKit.Fld Z h x ST "value" "[B" v0) (C : RoadKit.Fld Z h x ST "coder" "B" c0) (K : RoadKit.Arv Z h b kC .char N (cs.map Value.int) d) (S : RoadKit.Sta Z h ST "COMPACT_STRINGS" "Z" (.int z)) (hz : ¬ z = 0)
    (hn : cs.length = n) (hN : N = Int32.ofNat n) (l0 : 0 < n) (l2 : n ≤ 4000) (hp : ∀ c ∈ cs, ¬ c < 0 ∧ ¬ (255 : Int32) < c) (hb : bs = cs.map (fun c => c.toInt8.toInt32)) (hfr : 4 ≤ R.frames) (hlo : W + 65 ≤ R.locals) :
    Back l R p e below s args (⟨"java/lang/String", "<init>", "([C)V"⟩ : MethodName) len W (fun P a => a = #[.ref x, .ref b] ∧ P.U.heap = h ∧ P.cells + 1 ≤ R.cells ∧ P.slots + n ≤ R.slots)
      (fun P _ v B => ∃ L, QV Z x N bs h n0 v B.U.heap L ∧ B.locs = P.locs ++ L ∧ B.cells = P.cells + 1 ∧ B.slots = P.slots + n) := by
  subst hn hN hb
  refine Back.mono (backArv hZ hw wi E V C K S hz (n32 (by omega)) l0 (by omega) (fun c hc => (hp c hc).2) hfr hlo) (fun P a hp => hp) (fun P a v B hp hq => ?_)
  obtain ⟨L, ⟨q1, q2, q3, q4, q5, q6, q7, ⟨kb, v1, v2⟩, q9⟩, hl, hc, hs⟩ := hq
  exact ⟨L, ⟨q1, fun y hy => by rw [q2 y hy]; exact hx0, q3, q5, q7, h.size, kb, hh0, Nat.le_refl _, Nat.ne_of_gt E.lt, q6, by rw [List.map_map]; exact v2⟩, hl, hc, hs⟩
end StrChars.Road
namespace StrChars
open Jvm Sem ClassFile Op Lib Jvm.Stand Jvm.Free.XT Jvm.Free.ALB Jvm.Free.JM Jvm.Free
open Jvm.Lib.Cold (StaticIs)
def hi8 (x : Int32) : Int32 := lo8 (x >>> ((8 : Int32) &&& 31))
/-- what StringUTF16.getChar makes of two bytes -/
def pairCh (u v : Int32) : Int32 := (((u &&& 255) <<< ((0 : Int32) &&& 31)) ||| ((v &&& 255) <<< ((8 : Int32) &&& 31))).toUInt32.toUInt16.toUInt32.toInt32
theorem lo8_and (x : Int32) : (lo8 x &&& 255).toBitVec.toNat = x.toBitVec.toNat % 256 := by
  have h : (lo8 x).toBitVec = (x.toBitVec.signExtend 8).signExtend 32 := by rw [lo8, Int8.toBitVec_toInt32, Int32.toBitVec_toInt8]
  rw [Int32.toBitVec_and, BitVec.toNat_and, h]
  have e : ((x.toBitVec.signExtend 8).signExtend 32).toNat % 256 = x.toBitVec.toNat % 256 := by
    rw [BitVec.toNat_signExtend]
    have hlt := x.toBitVec.isLt
    simp only [BitVec.toNat_setWidth, BitVec.toNat_signExtend]
    split <;> split <;> omega
  rw [← e]
  exact Nat.and_two_pow_sub_one_eq_mod _ 8
theorem pair_says {c : Int32} (h0 : ¬ c < 0) (h1 : ¬ 65535 < c) : pairCh (lo8 c) (hi8 c) = c := by
  rw [Int32.lt_iff_toInt_lt] at h0 h1
  have e0 : (0 : Int32).toInt = 0 := rfl
  have e1 : (65535 : Int32).toInt = 65535 := rfl
  have hc : c.toInt = c.toBitVec.toNat := by
    have := c.toBitVec.isLt
    have e : c.toInt = c.toBitVec.toInt := rfl
    rw [e] at h0 h1
    rw [e]
    rw [BitVec.toInt_eq_toNat_cond] at h0 h1 ⊢
    split at h0 <;> split <;> omega
  have hn : c.toBitVec.toNat < 65536 := by omega
  have a1 := lo8_and c
  have a2 : (hi8 c &&& 255).toBitVec.toNat = c.toBitVec.toNat / 256 := by
    rw [hi8, lo8_and]
    have e : ((8 : Int32) &&& 31) = 8 := by decide
    rw [e, Int32.toBitVec_shiftRight]
    have e2 : ((8 : Int32).toBitVec.smod 32) = 8#32 := by decide
    rw [e2, BitVec.sshiftRight_eq', BitVec.toNat_sshiftRight_of_msb_false (by rw [BitVec.msb_eq_false_iff_two_mul_lt]; omega)]
    show c.toBitVec.toNat >>> 8 % 256 = _
    rw [Nat.shiftRight_eq_div_pow]
    omega
  unfold pairCh
  apply Int32.toBitVec_inj.mp
  apply BitVec.eq_of_toNat_eq
  have f0 : ((0 : Int32) &&& 31) = 0 := by decide
  have f8 : ((8 : Int32) &&& 31) = 8 := by decide
  rw [f0, f8]
  have g : (((lo8 c &&& 255) <<< (0 : Int32)) ||| ((hi8 c &&& 255) <<< (8 : Int32))).toBitVec.toNat = c.toBitVec.toNat := by
    rw [Int32.toBitVec_or, Int32.toBitVec_shiftLeft, Int32.toBitVec_shiftLeft]
    have s0 : ((0 : Int32).toBitVec.smod 32) = 0#32 := by decide
    have s8 : ((8 : Int32).toBitVec.smod 32) = 8#32 := by decide
    rw [s0, s8, BitVec.toNat_or]
    simp only [BitVec.shiftLeft_eq', BitVec.toNat_shiftLeft, a1, a2]
    show (c.toBitVec.toNat % 256) <<< 0 % 2 ^ 32 ||| (c.toBitVec.toNat / 256) <<< 8 % 2 ^ 32 = _
    rw [Nat.shiftLeft_zero, Nat.mod_eq_of_lt (show c.toBitVec.toNat % 256 < 2 ^ 32 by omega), Nat.mod_eq_of_lt (show (c.toBitVec.toNat / 256) <<< 8 < 2 ^ 32 by rw [Nat.shiftLeft_eq]; omega), Nat.or_comm, ← Nat.shiftLeft_add_eq_or_of_lt (by omega), Nat.shiftLeft_eq]
    omega
  show BitVec.toNat (((((lo8 c &&& 255) <<< (0 : Int32)) ||| ((hi8 c &&& 255) <<< (8 : Int32))).toBitVec.setWidth 16).setWidth 32) = _
  rw [BitVec.toNat_setWidth, BitVec.toNat_setWidth, g]
  omega
end StrChars
namespace StrChars
open Jvm Sem ClassFile Op Lib Jvm.Stand Jvm.Free.XT Jvm.Free.ALB Jvm.Free.JM Jvm.Free
open Jvm.Lib.Cold (StaticIs)
/-- the array's cell V codes the n chars f 0 .. f (n - 1) by the coder cd, as the JDK does: coder 1 just where some char is above 255 -/
def Cod (cd : Int32) (n : Nat) (f : Nat → Int32) (V : Cell) : Prop := (cd = 0 ∧ V.slots.size = n ∧ ∀ j, j < n → V.slots[j]? = some (.int (lo8 (f j))) ∧ ¬ 255 < f j) ∨ (cd = 1 ∧ V.slots.size = 2 * n ∧ (∀ j, j < n → V.slots[2 * j]? = some (.int (lo8 (f j))) ∧ V.slots[2 * j + 1]? = some (.int (hi8 (f j)))) ∧ ∃ j, j < n ∧ 255 < f j)
/-- **x is a String of the n chars f 0 .. f (n - 1)**, Latin-1 or UTF-16; its array at t has the cell V -/
def Txt (x t : Addr) (V : Cell) (cd : Int32) (n : Nat) (f : Nat → Int32) (U : State) : Prop := Exact "java/lang/String" x U ∧ Has x "java/lang/String" "value" "[B" (.ref t) U ∧ Has x "java/lang/String" "coder" "B" (.int cd) U ∧ XT.Arr .byte t V U ∧ Cod cd n f V ∧ ∀ j, j < n → ¬ f j < 0 ∧ ¬ 65535 < f j
theorem Txt.mv {x t : Addr} {V : Cell} {cd : Int32} {n : Nat} {f : Nat → Int32} {U U' : State} (h : Txt x t V cd n f U) (hal : U.vm.Alike U'.vm) (hh : U'.heap = U.heap) : Txt x t V cd n f U' := ⟨h.1.mv hal hh, h.2.1.mv hal hh, h.2.2.1.mv hal hh, h.2.2.2.1.mv hal hh, h.2.2.2.2⟩
end StrChars
namespace StrChars.Road
open Jvm Sem ClassFile Op Lib Jvm.Stand Jvm.Free Jvm.Free.XT
open Jvm.Lib.Cold (StaticIs)
theorem consq {a : Array Value} {s : State} {c : Jvm.Cond} {L : List Jvm.Cond} (h0 : c.before a s = true) (h : ∀ w ∈ L, w.before a s = true) : ∀ w ∈ c :: L, w.before a s = true := fun w hw => (List.mem_cons.mp hw).elim (fun e => e ▸ h0) (h w)
/-- the bytes of the chars cs, low before high -/
def wideBytes : List Int32 → List Value
  | [] => []
  | c :: cs => .int (lo8 c) :: .int (hi8 c) :: wideBytes cs
theorem wide_lo (d : Value) : ∀ (cs : List Int32) (j : Nat), j < cs.length → (wideBytes cs).getD (2 * j) d = .int (lo8 (cs.getD j 0))
  | [], j, h => absurd h (Nat.not_lt_zero j)
  | c :: cs, 0, _ => rfl
  | c :: cs, j + 1, h => by
    have q := wide_lo d cs j (by simpa using h)
    rw [show 2 * (j + 1) = 2 * j + 1 + 1 from by omega]
    simpa [wideBytes] using q
theorem wide_hi (d : Value) : ∀ (cs : List Int32) (j : Nat), j < cs.length → (wideBytes cs).getD (2 * j + 1) d = .int (hi8 (cs.getD j 0))
  | [], j, h => absurd h (Nat.not_lt_zero j)
  | c :: cs, 0, _ => rfl
  | c :: cs, j + 1, h => by
    have q := wide_hi d cs j (by simpa using h)
    rw [show 2 * (j + 1) + 1 = 2 * j + 1 + 1 + 1 from by omega]
    simpa [wideBytes] using q
theorem low_at (d : Value) (cs : List Int32) (j : Nat) (h : j < cs.length) : (cs.map fun c => Value.int (lo8 c)).getD j d = .int (lo8 (cs.getD j 0)) := by
  simp [List.getD_eq_getElem?_getD, h]
/-- an array of N2 bytes vs codes the chars cs by the coder cd -/
def CodA (cs : List Int32) (cd N2 : Int32) (vs : List Value) : Prop := (cd = 0 ∧ N2 = Int32.ofNat cs.length ∧ vs = (cs.map fun c => Value.int (lo8 c)) ∧ ∀ c ∈ cs, ¬ 255 < c) ∨ (cd = 1 ∧ N2 = Int32.ofNat (2 * cs.length) ∧ vs = wideBytes cs ∧ ∃ c ∈ cs, 255 < c)
theorem CodA.cod {cs : List Int32} {cd N2 : Int32} {vs : List Value} {V : Cell} (h : CodA cs cd N2 vs) (hn : 2 * cs.length < 2 ^ 31) (hs : V.slots.size = N2.toNatClampNeg) (hv : RoadKit.Has V vs (.int 0)) : Cod cd cs.length (fun j => cs.getD j 0) V := by
  rcases h with ⟨rfl, rfl, rfl, h⟩ | ⟨rfl, rfl, rfl, c, hc, hw⟩
  · rw [n32 (by omega)] at hs
    exact Or.inl ⟨rfl, hs, fun j hj => ⟨by rw [hv j (by omega), low_at _ _ _ hj], by
      have e : cs.getD j 0 = cs[j] := by simp [List.getD_eq_getElem?_getD, hj]
      show ¬ 255 < cs.getD j 0
      rw [e]; exact h _ (List.getElem_mem _)⟩⟩
  · rw [n32 (by omega)] at hs
    obtain ⟨j, hj, rfl⟩ := List.getElem_of_mem hc
    exact Or.inr ⟨rfl, hs, fun j hj => ⟨by rw [hv _ (by omega), wide_lo _ _ _ hj], by rw [hv _ (by omega), wide_hi _ _ _ hj]⟩, j, hj, by
      have e : cs.getD j 0 = cs[j] := by simp [List.getD_eq_getElem?_getD, hj]
      show 255 < cs.getD j 0
      rw [e]; exact hw⟩
/-- an object of exactly java/lang/String, its two fields found: as the laws ask it -/
theorem strObj {Z U : State} {a0 : Array Value} {kI : Nat} (wi : (Jvm.Cond.instantiable ST kI).before a0 Z = true) (al : Z.vm.Alike U.vm) {x : Addr} {v0 c0 : Value} (E : RoadKit.Exa Z U.heap x ST) (V : RoadKit.Fld Z U.heap x ST "value" "[B" v0) (C : RoadKit.Fld Z U.heap x ST "coder" "B" c0) :
    ∃ (D : Cell) (fV fC : Field), Blank ST x D U ∧ Found ST "value" "[B" fV U ∧ Found ST "coder" "B" fC U ∧ D.slots[fV.slot]? = some v0 ∧ D.slots[fC.slot]? = some c0 ∧ RoadKit.slotOf Z ST "value" "[B" = fV.slot ∧ RoadKit.slotOf Z ST "coder" "B" = fC.slot := by
  obtain ⟨D, cfV, kV, iV, fV, hD, gV, stV, knV, obV, asV, slV⟩ := V
  obtain ⟨D', cfC, kC, iC, fC, hD', gC, stC, -, -, asC, slC⟩ := C
  cases hD.symm.trans hD'
  obtain ⟨D2, kD, e1, e2, e3, e4, e5⟩ := E
  cases hD.symm.trans e1
  obtain ⟨c2, k2, i1, i2, i3, -⟩ := Cond.instantiable_spec wi
  cases e2.symm.trans i1
  cases e3.symm.trans i2
  obtain ⟨kU, u1, u2⟩ := al.2.2 _ _ e3
  exact ⟨D, fV, fC, ⟨hD, ⟨knV, fun q hq => by rw [hq] at obV; cases obV⟩, by rw [al.findClass]; exact e2, kU, u1, by rw [u2]; exact i3, by rw [u2]; exact e5 i3⟩, ⟨SBG.found_only al ⟨cfV, kV, iV, gV⟩, stV⟩, ⟨SBG.found_only al ⟨cfC, kC, iC, gC⟩, stC⟩, slV, slC, by simp [RoadKit.slotOf, gV], by simp [RoadKit.slotOf, gC]⟩
theorem sta_is {Z U : State} (al : Z.vm.Alike U.vm) {C n d : String} {v : Value} (S : RoadKit.Sta Z U.heap C n d v) : StaticIs U C n d v := by
  obtain ⟨cfS, iS, kS, fS, st, cS, t1, t2, t3, t4, t5, t6, t7⟩ := S
  exact StaticIs.there (s := { Z with heap := U.heap }) ⟨cfS, iS, kS, fS, st, cS, t1, t2, t3, t4, t5, (fun q => by rw [q] at t6; cases t6), t7⟩ al rfl
end StrChars.Road
namespace StrChars
open Jvm Sem ClassFile Op Lib Jvm.Stand Jvm.Free.XT Jvm.Free.ALB Jvm.Free.JM Jvm.Free
open Jvm.Lib.Cold (StaticIs)
/-- what place i of a byte[]'s cell holds -/
def yv (A : Cell) (i : Nat) : Int32 := match A.slots[i]? with | some (.int x) => x | _ => 0
theorem yv_get {a : Addr} {A : Cell} {U : State} (h : XT.Arr .byte a A U) (ht : Typed .byte A) {i : Nat} (hi : i < A.slots.size) : A.slots[i]? = some (.int (yv A i)) := by
  have e := Array.getElem?_eq_getElem hi
  have f := ht i _ e
  unfold yv; rw [e]
  generalize A.slots[i] = v at f
  cases v <;> simp [fits] at f ⊢
/-- the two arrays are equal, place for place -/
def EqC (A B : Cell) : Prop := A.slots.size = B.slots.size ∧ ∀ i, i < A.slots.size → yv A i = yv B i
/-- a boolean that says whether p -/
def Says01 (q : Prop) (r : Option Value) (s u : State) : Prop := ∃ v : Int32, r = some (.int v) ∧ u.heap = s.heap ∧ ((v = 1 ∧ q) ∨ (v = 0 ∧ ¬ q))
theorem Says01.mv {q : Prop} : ∀ r (U U' V V' : State), U'.heap = U.heap → V.vm.Alike V'.vm → V'.heap = V.heap → Says01 q r U V → Says01 q r U' V' :=
  fun r U U' V V' h1 _ h2 ⟨v, a, b, c⟩ => ⟨v, a, by rw [h1, h2]; exact b, c⟩
namespace LEq
def yN : MethodName := ⟨"java/lang/StringLatin1", "equals", "([B[B)Z"⟩
abbrev yB : ByteArray := jdk_43_method_13_code
theorem d0 : decode yB 0 = .ok (.aload_n 0, 1) := by decide +kernel
theorem d1 : decode yB 1 = .ok (.arraylength, 1) := by decide +kernel
theorem d2 : decode yB 2 = .ok (.aload_n 1, 1) := by decide +kernel
theorem d3 : decode yB 3 = .ok (.arraylength, 1) := by decide +kernel
theorem d4 : decode yB 4 = .ok (.if_icmp (.ne) 30, 3) := by decide +kernel
theorem d7 : decode yB 7 = .ok (.iconst 0, 1) := by decide +kernel
theorem d8 : decode yB 8 = .ok (.istore_n 2, 1) := by decide +kernel
theorem d9 : decode yB 9 = .ok (.iload_n 2, 1) := by decide +kernel
theorem d10 : decode yB 10 = .ok (.aload_n 0, 1) := by decide +kernel
theorem d11 : decode yB 11 = .ok (.arraylength, 1) := by decide +kernel
theorem d12 : decode yB 12 = .ok (.if_icmp (.ge) 20, 3) := by decide +kernel
theorem d15 : decode yB 15 = .ok (.aload_n 0, 1) := by decide +kernel
theorem d16 : decode yB 16 = .ok (.iload_n 2, 1) := by decide +kernel
theorem d17 : decode yB 17 = .ok (.baload, 1) := by decide +kernel
theorem d18 : decode yB 18 = .ok (.aload_n 1, 1) := by decide +kernel
theorem d19 : decode yB 19 = .ok (.iload_n 2, 1) := by decide +kernel
theorem d20 : decode yB 20 = .ok (.baload, 1) := by decide +kernel
theorem d21 : decode yB 21 = .ok (.if_icmp (.eq) 5, 3) := by decide +kernel
theorem d24 : decode yB 24 = .ok (.iconst 0, 1) := by decide +kernel
theorem d25 : decode yB 25 = .ok (.ireturn, 1) := by decide +kernel
theorem d26 : decode yB 26 = .ok (.iinc 2 1, 3) := by decide +kernel
theorem d29 : decode yB 29 = .ok (.goto (-20), 3) := by decide +kernel
theorem d32 : decode yB 32 = .ok (.iconst 1, 1) := by decide +kernel
theorem d33 : decode yB 33 = .ok (.ireturn, 1) := by decide +kernel
theorem d34 : decode yB 34 = .ok (.iconst 0, 1) := by decide +kernel
theorem d35 : decode yB 35 = .ok (.ireturn, 1) := by decide +kernel
def site : List Cond := []
def tab : Cond := tabOf yN yB 3 (some .boolean) site
def P (a : Addr) (A : Cell) (b : Addr) (B : Cell) (args : Array Value) (s : State) : Prop := args = #[.ref a, .ref b] ∧ XT.Arr .byte a A s ∧ Typed .byte A ∧ XT.Arr .byte b B s ∧ Typed .byte B
/-- whether two byte[] are equal, place for place -/
theorem law (l : Launch) (a : Addr) (A : Cell) (b : Addr) (B : Cell) : Law l yN 2 2 0 0 yB 3 (some .boolean) site (P a A b B) (Says01 (EqC A B)) [] 0 0 := by
  refine Law.of_walk (plainFor_of_name (by decide +kernel)) (by decide +kernel) (by decide +kernel) (by decide) (fun _ _ h => by rw [h.1]; rfl) (fun _ U U' hal hh h => ⟨h.1, h.2.1.mv hal hh, h.2.2.1, h.2.2.2.1.mv hal hh, h.2.2.2.2⟩) (fun r U U' V V' h1 hal h2 h => Says01.mv r U U' V V' h1 hal h2 h) ?_
  intro p e s m args below meth c s₁ X0 hexec hbytes hml hret hlk hnm hown hh0 W hP
  obtain ⟨rfl, hA, tA, hB, tB⟩ := hP
  have a31 := hA.2.2.2
  have b31 := hB.2.2.2
  have hA0 := hA.mv X0.warmed.alike hh0
  have hB0 := hB.mv X0.warmed.alike hh0
  have c1 : Steps p.tables e below (s₁.setTop (entryFrame m #[.ref a, .ref b] 3)) (s₁.setTop (mkF m 0 #[.val (.ref a), .val (.ref b), .unset] [])) := entry rfl
  have c2 : Steps p.tables e below (s₁.setTop (entryFrame m #[.ref a, .ref b] 3)) (s₁.setTop (mkF m 4 #[.val (.ref a), .val (.ref b), .unset] [.int (Int32.ofNat B.slots.size), .int (Int32.ofNat A.slots.size)])) := c1.trans (by
    refine XS.aloadN X0.here hexec rfl (hb hbytes d0) rfl rfl ?_
    refine X0.alen hexec hA0 rfl rfl (hb hbytes d1) ?_
    refine XS.aloadN X0.here hexec rfl (hb hbytes d2) rfl rfl ?_
    refine X0.alen hexec hB0 rfl rfl (hb hbytes d3) ?_
    exact Steps.refl _)
  by_cases hs : A.slots.size = B.slots.size
  · have c3 : Steps p.tables e below (s₁.setTop (entryFrame m #[.ref a, .ref b] 3)) (s₁.setTop (mkF m 9 #[.val (.ref a), .val (.ref b), .val (.int 0)] [])) := c2.trans (by
      refine XS.icmpNo X0.here hexec rfl (hb hbytes d4) rfl (ii_ne_f (by rw [hs])) ?_
      refine iconstV X0.here hexec rfl 0 (hb hbytes d7) (by decide) ?_
      refine XS.istoreN X0.here hexec rfl (hb hbytes d8) rfl rfl ?_
      exact Steps.refl _)
    have loop : ∀ (r i : Nat), i + r = A.slots.size → (∀ j, j < i → yv A j = yv B j) → Steps p.tables e below (s₁.setTop (entryFrame m #[.ref a, .ref b] 3)) (s₁.setTop (mkF m 9 #[.val (.ref a), .val (.ref b), .val (.int (Int32.ofNat i))] [])) → ∃ (pc : Nat) (Ls : Array Slot) (v : Int32), (pc = 25 ∨ pc = 33) ∧ ((v = 1 ∧ EqC A B) ∨ (v = 0 ∧ ¬ EqC A B)) ∧ Steps p.tables e below (s₁.setTop (entryFrame m #[.ref a, .ref b] 3)) (s₁.setTop (mkF m pc Ls [.int v])) := by
      intro r
      induction r with
      | zero =>
        intro i hi he cl
        exact ⟨33, _, 1, Or.inr rfl, Or.inl ⟨rfl, hs, fun j hj => he j (by omega)⟩, cl.trans (by
          refine XS.iloadN X0.here hexec rfl (hb hbytes d9) rfl ?_
          refine XS.aloadN X0.here hexec rfl (hb hbytes d10) rfl rfl ?_
          refine X0.alen hexec hA0 rfl rfl (hb hbytes d11) ?_
          refine XS.icmpYes X0.here hexec rfl (pc0 := 12) rfl (hb hbytes d12) rfl (ii_ge_t (nlt32 (by omega) (by omega))) (by decide) rfl ?_
          refine iconstV X0.here hexec rfl 1 (hb hbytes d32) (by decide) ?_
          exact Steps.refl _)⟩
      | succ r ih =>
        intro i hi he cl
        have c4 : Steps p.tables e below (s₁.setTop (entryFrame m #[.ref a, .ref b] 3)) (s₁.setTop (mkF m 21 #[.val (.ref a), .val (.ref b), .val (.int (Int32.ofNat i))] [.int (yv B i), .int (yv A i)])) := cl.trans (by
          refine XS.iloadN X0.here hexec rfl (hb hbytes d9) rfl ?_
          refine XS.aloadN X0.here hexec rfl (hb hbytes d10) rfl rfl ?_
          refine X0.alen hexec hA0 rfl rfl (hb hbytes d11) ?_
          refine XS.icmpNo X0.here hexec rfl (hb hbytes d12) rfl (ii_ge_f (lt32 (by omega) (by omega))) ?_
          refine XS.aloadN X0.here hexec rfl (hb hbytes d15) rfl rfl ?_
          refine XS.iloadN X0.here hexec rfl (hb hbytes d16) rfl ?_
          refine X0.aget hexec hA0 rfl (yv_get hA tA (i := i) (by omega)) rfl rfl (hb hbytes d17) ?_
          refine XS.aloadN X0.here hexec rfl (hb hbytes d18) rfl rfl ?_
          refine XS.iloadN X0.here hexec rfl (hb hbytes d19) rfl ?_
          refine X0.aget hexec hB0 rfl (yv_get hB tB (i := i) (by omega)) rfl rfl (hb hbytes d20) ?_
          exact Steps.refl _)
        by_cases hv : yv A i = yv B i
        · have c5 : Steps p.tables e below (s₁.setTop (entryFrame m #[.ref a, .ref b] 3)) (s₁.setTop (mkF m 9 #[.val (.ref a), .val (.ref b), .val (.int (Int32.ofNat i + 1))] [])) := c4.trans (by
            refine XS.icmpYes X0.here hexec rfl (pc0 := 21) rfl (hb hbytes d21) rfl (ii_eq_t hv) (by decide) rfl ?_
            refine iincV X0.here hexec rfl 1 (hb hbytes d26) (by decide) rfl rfl ?_
            refine XS.goto X0.here hexec rfl (pc0 := 29) rfl (hb hbytes d29) (by decide) rfl ?_
            exact Steps.refl _)
          rw [succ32] at c5
          exact ih (i + 1) (by omega) (fun j hj => by
            by_cases e : j = i
            · rw [e]; exact hv
            · exact he j (by omega)) c5
        · exact ⟨25, _, 0, Or.inl rfl, Or.inr ⟨rfl, fun q => hv (q.2 i (by omega))⟩, c4.trans (by
            refine XS.icmpNo X0.here hexec rfl (hb hbytes d21) rfl (ii_eq_f hv) ?_
            refine iconstV X0.here hexec rfl 0 (hb hbytes d24) (by decide) ?_
            exact Steps.refl _)⟩
    obtain ⟨pc, Ls, v, hpc, hv, cz⟩ := loop A.slots.size 0 (by omega) (fun j hj => absurd hj (Nat.not_lt_zero j)) c3
    have nv : narrow .boolean (.int v) = .int v := by rcases hv with ⟨rfl, -⟩ | ⟨rfl, -⟩ <;> rfl
    rcases hpc with rfl | rfl
    · exact ⟨s₁, some (.int v), _, _, _, X0, rfl, rfl, rfl, (fun h => by cases h), ⟨v, rfl, hh0, hv⟩, fun fs hl => cz.trans (X0.ireturnOut hexec hret nv (Or.inr (Or.inl rfl)) (hb hbytes d25) hl)⟩
    · exact ⟨s₁, some (.int v), _, _, _, X0, rfl, rfl, rfl, (fun h => by cases h), ⟨v, rfl, hh0, hv⟩, fun fs hl => cz.trans (X0.ireturnOut hexec hret nv (Or.inr (Or.inl rfl)) (hb hbytes d33) hl)⟩
  · have c3 : Steps p.tables e below (s₁.setTop (entryFrame m #[.ref a, .ref b] 3)) (s₁.setTop (mkF m 35 #[.val (.ref a), .val (.ref b), .unset] [.int 0])) := c2.trans (by
      refine XS.icmpYes X0.here hexec rfl (pc0 := 4) rfl (hb hbytes d4) rfl (ii_ne_t (ne32 a31 b31 hs)) (by decide) rfl ?_
      refine iconstV X0.here hexec rfl 0 (hb hbytes d34) (by decide) ?_
      exact Steps.refl _)
    exact ⟨s₁, some (.int 0), _, _, _, X0, rfl, rfl, rfl, (fun h => by cases h), ⟨0, rfl, hh0, Or.inr ⟨rfl, fun q => hs q.1⟩⟩, fun fs hl => c3.trans (X0.ireturnOut hexec hret rfl (Or.inr (Or.inl rfl)) (hb hbytes d35) hl)⟩
end LEq
theorem Cod.ty {cd : Int32} {n : Nat} {f : Nat → Int32} {V : Cell} (h : Cod cd n f V) : Typed .byte V := fun i v hv => by
  have hi : i < V.slots.size := (Array.getElem?_eq_some_iff.mp hv).1
  rcases h with ⟨-, k1, k2⟩ | ⟨-, k1, k2, -⟩
  · rw [(k2 i (by omega)).1] at hv; cases hv; exact fits_lo8 _
  · rcases Nat.mod_two_eq_zero_or_one i with e | e
    · obtain ⟨j, rfl⟩ : ∃ j, i = 2 * j := ⟨i / 2, by omega⟩
      rw [(k2 j (by omega)).1] at hv; cases hv; exact fits_lo8 _
    · obtain ⟨j, rfl⟩ : ∃ j, i = 2 * j + 1 := ⟨i / 2, by omega⟩
      rw [(k2 j (by omega)).2] at hv; cases hv; exact fits_lo8 _
/-- the same text -/
def SameT (n : Nat) (f : Nat → Int32) (k : Nat) (g : Nat → Int32) : Prop := n = k ∧ ∀ j, j < n → f j = g j
theorem lo8_inj {x y : Int32} (h0 : ¬ x < 0) (h1 : ¬ 255 < x) (k0 : ¬ y < 0) (k1 : ¬ 255 < y) (h : lo8 x = lo8 y) : x = y := by
  rw [← lo8_mask h0 h1, ← lo8_mask k0 k1, h]
/-- arrays coded by one coder are equal just where the texts are -/
theorem Cod.eqv {cd : Int32} {n k : Nat} {f g : Nat → Int32} {V V' : Cell} (h : Cod cd n f V) (h' : Cod cd k g V') (hf : ∀ j, j < n → ¬ f j < 0 ∧ ¬ 65535 < f j) (hg : ∀ j, j < k → ¬ g j < 0 ∧ ¬ 65535 < g j) : EqC V V' ↔ SameT n f k g := by
  have yvv : ∀ {W : Cell} {i : Nat} {x : Int32}, W.slots[i]? = some (.int x) → yv W i = x := fun q => by unfold yv; rw [q]
  rcases h with ⟨rfl, k1, k2⟩ | ⟨rfl, k1, k2, -⟩
  · rcases h' with ⟨-, m1, m2⟩ | ⟨e, -⟩
    · constructor
      · rintro ⟨e1, e2⟩
        refine ⟨by omega, fun j hj => ?_⟩
        have q := e2 j (by omega)
        rw [yvv (k2 j hj).1, yvv (m2 j (by omega)).1] at q
        exact lo8_inj (hf j hj).1 (k2 j hj).2 (hg j (by omega)).1 (m2 j (by omega)).2 q
      · rintro ⟨rfl, e2⟩
        refine ⟨by omega, fun j hj => ?_⟩
        rw [yvv (k2 j (by omega)).1, yvv (m2 j (by omega)).1, e2 j (by omega)]
    · exact absurd e (by decide)
  · rcases h' with ⟨e, -⟩ | ⟨-, m1, m2, -⟩
    · exact absurd e (by decide)
    · constructor
      · rintro ⟨e1, e2⟩
        refine ⟨by omega, fun j hj => ?_⟩
        have q1 := e2 (2 * j) (by omega)
        have q2 := e2 (2 * j + 1) (by omega)
        rw [yvv (k2 j hj).1, yvv (m2 j (by omega)).1] at q1
        rw [yvv (k2 j hj).2, yvv (m2 j (by omega)).2] at q2
        rw [← pair_says (hf j hj).1 (hf j hj).2, ← pair_says (hg j (by omega)).1 (hg j (by omega)).2, q1, q2]
      · rintro ⟨rfl, e2⟩
        refine ⟨by omega, fun i hi => ?_⟩
        rcases Nat.mod_two_eq_zero_or_one i with e | e
        · obtain ⟨j, rfl⟩ : ∃ j, i = 2 * j := ⟨i / 2, by omega⟩
          rw [yvv (k2 j (by omega)).1, yvv (m2 j (by omega)).1, e2 j (by omega)]
        · obtain ⟨j, rfl⟩ : ∃ j, i = 2 * j + 1 := ⟨i / 2, by omega⟩
          rw [yvv (k2 j (by omega)).2, yvv (m2 j (by omega)).2, e2 j (by omega)]
/-- two codings differ: so do the texts -/
theorem Cod.dif {cd cd' : Int32} {n k : Nat} {f g : Nat → Int32} {V V' : Cell} (h : Cod cd n f V) (h' : Cod cd' k g V') (hne : ¬ cd = cd') : ¬ SameT n f k g := by
  rintro ⟨rfl, e⟩
  rcases h with ⟨rfl, -, k2⟩ | ⟨rfl, -, -, j, hj, hw⟩
  · rcases h' with ⟨rfl, -⟩ | ⟨-, -, -, j, hj, hw⟩
    · exact hne rfl
    · exact (k2 j hj).2 (by rw [e j hj]; exact hw)
  · rcases h' with ⟨-, -, m2⟩ | ⟨rfl, -⟩
    · exact (m2 j hj).2 (by rw [← e j hj]; exact hw)
    · exact hne rfl
/-- an object of exactly C is an instance of C -/
theorem cinst {p : Program} {l : Launch} {e : Env} {R : Room} {s : State} {m : MethodId} {args : Array Value} {below : List Frame} {meth : Method} {c : Code} {T : State} {locs : List Loc} {cells slots : Nat} (X : Stand p l e R s m args below meth c T locs cells slots) (hexec : p.tables.exec = Jvm.exec) {own C : String} {index : Nat} (hown : s.vm.findClass own = some m.cls) (hlink : (Cond.classLink own index C).before args s = true) {a : Addr} (hE : Exact C a T)
    {g : JFrame} (hg : g.method = m) {rest : List Value} (hstack : g.stack = .ref a :: rest) (hdg : decode c.code g.pc = .ok (.instanceof index, 3)) :
    ∃ T', Stand p l e R s m args below meth c T' locs cells slots ∧ T'.heap = T.heap ∧ ∀ target, Steps p.tables e below (T'.setTop { g with pc := g.pc + 3, stack := .int 1 :: rest }) target → Steps p.tables e below (T.setTop g) target := by
  obtain ⟨cB, h1, D, h2, h3, h4⟩ := hE
  have h1' : s.vm.findClass C = some cB := by rw [← X.warmed.alike.findClass]; exact h1
  obtain ⟨vm', X', st⟩ := X.instanceofYes hexec hown hlink h2 h4 h1' (by rw [h3]; exact Jvm.Free.SB.assignable_self _ _) hg hstack hdg
  exact ⟨_, X', rfl, st⟩
theorem cself {p : Program} {l : Launch} {e : Env} {R : Room} {s : State} {m : MethodId} {args : Array Value} {below : List Frame} {meth : Method} {c : Code} {T : State} {locs : List Loc} {cells slots : Nat} (X : Stand p l e R s m args below meth c T locs cells slots) (hexec : p.tables.exec = Jvm.exec) {own C : String} {index : Nat} (hown : s.vm.findClass own = some m.cls) (hlink : (Cond.classLink own index C).before args s = true) {a : Addr} (hE : Exact C a T)
    {g : JFrame} (hg : g.method = m) {rest : List Value} (hstack : g.stack = .ref a :: rest) (hdg : decode c.code g.pc = .ok (.checkcast index, 3)) :
    ∃ T', Stand p l e R s m args below meth c T' locs cells slots ∧ T'.heap = T.heap ∧ ∀ target, Steps p.tables e below (T'.setTop { g with pc := g.pc + 3, stack := .ref a :: rest }) target → Steps p.tables e below (T.setTop g) target := by
  obtain ⟨cB, h1, D, h2, h3, h4⟩ := hE
  have h1' : s.vm.findClass C = some cB := by rw [← X.warmed.alike.findClass]; exact h1
  obtain ⟨vm', X', st⟩ := X.checkcastYes hexec hown hlink h2 h4 h1' (by rw [h3]; exact Jvm.Free.SB.assignable_self _ _) hg hstack hdg
  exact ⟨_, X', rfl, fun t h => st t (by rw [← hstack] at h; exact h)⟩
namespace SEq
def yN : MethodName := ⟨"java/lang/String", "equals", "(Ljava/lang/Object;)Z"⟩
abbrev yB : ByteArray := jdk_42_method_66_code
theorem d0 : decode yB 0 = .ok (.aload_n 0, 1) := by decide +kernel
theorem d1 : decode yB 1 = .ok (.aload_n 1, 1) := by decide +kernel
theorem d2 : decode yB 2 = .ok (.if_acmp (.ne) 5, 3) := by decide +kernel
theorem d5 : decode yB 5 = .ok (.iconst 1, 1) := by decide +kernel
theorem d6 : decode yB 6 = .ok (.ireturn, 1) := by decide +kernel
theorem d7 : decode yB 7 = .ok (.aload_n 1, 1) := by decide +kernel
theorem d8 : decode yB 8 = .ok (.instanceof 10, 3) := by decide +kernel
theorem d11 : decode yB 11 = .ok (.ifCond (.eq) 43, 3) := by decide +kernel
theorem d14 : decode yB 14 = .ok (.aload_n 1, 1) := by decide +kernel
theorem d15 : decode yB 15 = .ok (.checkcast 10, 3) := by decide +kernel
theorem d18 : decode yB 18 = .ok (.astore_n 2, 1) := by decide +kernel
theorem d19 : decode yB 19 = .ok (.getstatic 38, 3) := by decide +kernel
theorem d22 : decode yB 22 = .ok (.ifCond (.eq) 14, 3) := by decide +kernel
theorem d25 : decode yB 25 = .ok (.aload_n 0, 1) := by decide +kernel
theorem d26 : decode yB 26 = .ok (.getfield 15, 3) := by decide +kernel
theorem d29 : decode yB 29 = .ok (.aload_n 2, 1) := by decide +kernel
theorem d30 : decode yB 30 = .ok (.getfield 15, 3) := by decide +kernel
theorem d33 : decode yB 33 = .ok (.if_icmp (.ne) 21, 3) := by decide +kernel
theorem d36 : decode yB 36 = .ok (.aload_n 0, 1) := by decide +kernel
theorem d37 : decode yB 37 = .ok (.getfield 9, 3) := by decide +kernel
theorem d40 : decode yB 40 = .ok (.aload_n 2, 1) := by decide +kernel
theorem d41 : decode yB 41 = .ok (.getfield 9, 3) := by decide +kernel
theorem d44 : decode yB 44 = .ok (.invokestatic 541, 3) := by decide +kernel
theorem d47 : decode yB 47 = .ok (.ifCond (.eq) 7, 3) := by decide +kernel
theorem d50 : decode yB 50 = .ok (.iconst 1, 1) := by decide +kernel
theorem d51 : decode yB 51 = .ok (.goto 4, 3) := by decide +kernel
theorem d54 : decode yB 54 = .ok (.iconst 0, 1) := by decide +kernel
theorem d55 : decode yB 55 = .ok (.ireturn, 1) := by decide +kernel
def site : List Cond := [.classLink "java/lang/String" 10 "java/lang/String", .fieldLink "java/lang/String" 38 "java/lang/String" "COMPACT_STRINGS" "Z", .fieldLink "java/lang/String" 15 "java/lang/String" "coder" "B", .fieldLink "java/lang/String" 9 "java/lang/String" "value" "[B", LEq.tab] ++ staticW "java/lang/String" 541 LEq.yN
def tab : Cond := tabOf yN yB 3 (some .boolean) site
def P (x t : Addr) (V : Cell) (cd : Int32) (n : Nat) (f : Nat → Int32) (y t' : Addr) (V' : Cell) (cd' : Int32) (k : Nat) (g : Nat → Int32) (z : Int32) (args : Array Value) (s : State) : Prop := args = #[.ref x, .ref y] ∧ Txt x t V cd n f s ∧ Txt y t' V' cd' k g s ∧ StaticIs s "java/lang/String" "COMPACT_STRINGS" "Z" (.int z) ∧ ¬ z = 0
/-- equals(Object) of two Strings: whether the texts are the same -/
theorem law (l : Launch) (x t : Addr) (V : Cell) (cd : Int32) (n : Nat) (f : Nat → Int32) (y t' : Addr) (V' : Cell) (cd' : Int32) (k : Nat) (g : Nat → Int32) (z : Int32) : Law l yN 2 1 1 14 yB 3 (some .boolean) site (P x t V cd n f y t' V' cd' k g z) (Says01 (SameT n f k g)) [] 0 0 := by
  refine Law.of_walk (plainFor_of_name (by decide +kernel)) (by decide +kernel) (by decide +kernel) (by decide) (fun _ _ h => by rw [h.1]; rfl) (fun _ U U' hal hh h => ⟨h.1, h.2.1.mv hal hh, h.2.2.1.mv hal hh, h.2.2.2.1.there hal hh, h.2.2.2.2⟩) (fun r U U' V V' h1 hal h2 h => Says01.mv r U U' V V' h1 hal h2 h) ?_
  intro p e s m args below meth c s₁ X0 hexec hbytes hml hret hlk hnm hown hh0 W hP
  obtain ⟨rfl, hx, hy, s1, hz⟩ := hP
  have c1 : Steps p.tables e below (s₁.setTop (entryFrame m #[.ref x, .ref y] 3)) (s₁.setTop (mkF m 2 #[.val (.ref x), .val (.ref y), .unset] [.ref y, .ref x])) := Steps.trans (entry rfl) (by
    show Steps p.tables e below (s₁.setTop (mkF m 0 #[.val (.ref x), .val (.ref y), .unset] [])) _
    refine XS.aloadN X0.here hexec rfl (hb hbytes d0) rfl rfl ?_
    refine XS.aloadN X0.here hexec rfl (hb hbytes d1) rfl rfl ?_
    exact Steps.refl _)
  by_cases hxy : x = y
  · have c2 : Steps p.tables e below (s₁.setTop (entryFrame m #[.ref x, .ref y] 3)) (s₁.setTop (mkF m 6 #[.val (.ref x), .val (.ref y), .unset] [.int 1])) := c1.trans (by
      refine acmpNo X0.here hexec rfl (hb hbytes d2) rfl rfl rfl (by simp [acmp, hxy]) ?_
      refine iconstV X0.here hexec rfl 1 (hb hbytes d5) (by decide) ?_
      exact Steps.refl _)
    subst hxy
    have ec : cd = cd' := by
      obtain ⟨D, fd, a1, a2, a3⟩ := hx.2.2.1
      obtain ⟨D', fd', b1, b2, b3⟩ := hy.2.2.1
      cases a1.symm.trans b1
      obtain ⟨q1, q2, q3, q4⟩ := a2.1
      obtain ⟨r1, r2, r3, r4⟩ := b2.1
      cases q4.symm.trans r4
      cases a3.symm.trans b3; rfl
    have et : t = t' := by
      obtain ⟨D, fd, a1, a2, a3⟩ := hx.2.1
      obtain ⟨D', fd', b1, b2, b3⟩ := hy.2.1
      cases a1.symm.trans b1
      obtain ⟨q1, q2, q3, q4⟩ := a2.1
      obtain ⟨r1, r2, r3, r4⟩ := b2.1
      cases q4.symm.trans r4
      cases a3.symm.trans b3; rfl
    subst ec et
    have ev : V = V' := by cases hx.2.2.2.1.1.symm.trans hy.2.2.2.1.1; rfl
    subst ev
    have hs : SameT n f k g := (Cod.eqv hx.2.2.2.2.1 hy.2.2.2.2.1 hx.2.2.2.2.2 hy.2.2.2.2.2).mp ⟨rfl, fun _ _ => rfl⟩
    exact ⟨s₁, some (.int 1), _, _, _, X0, rfl, rfl, rfl, (fun h => by cases h), ⟨1, rfl, hh0, Or.inl ⟨rfl, hs⟩⟩, fun fs hl => c2.trans (X0.ireturnOut hexec hret rfl (Or.inr (Or.inl rfl)) (hb hbytes d6) hl)⟩
  · have c2 : Steps p.tables e below (s₁.setTop (entryFrame m #[.ref x, .ref y] 3)) (s₁.setTop (mkF m 8 #[.val (.ref x), .val (.ref y), .unset] [.ref y])) := c1.trans (by
      refine acmpYes X0.here hexec rfl (pc0 := 2) rfl (hb hbytes d2) rfl rfl rfl (by simp [acmp, hxy]) (by decide) rfl ?_
      refine XS.aloadN X0.here hexec rfl (hb hbytes d7) rfl rfl ?_
      exact Steps.refl _)
    obtain ⟨T3, X3, q3, st3⟩ := cinst X0 hexec hown (wk W (.classLink "java/lang/String" 10 "java/lang/String")) (hy.mv X0.warmed.alike hh0).1 (g := (mkF m 8 #[.val (.ref x), .val (.ref y), .unset] [.ref y])) rfl (rest := []) rfl (hb hbytes d8)
    have hh3 := q3.trans hh0
    have c4 : Steps p.tables e below (s₁.setTop (entryFrame m #[.ref x, .ref y] 3)) (T3.setTop (mkF m 15 #[.val (.ref x), .val (.ref y), .unset] [.ref y])) := (c2.trans (st3 _ (Steps.refl _))).trans (by
      refine XS.ifNo X3.here hexec rfl (hb hbytes d11) rfl (i0_eq_f (by decide)) ?_
      refine XS.aloadN X3.here hexec rfl (hb hbytes d14) rfl rfl ?_
      exact Steps.refl _)
    obtain ⟨T5, X5, q5, st5⟩ := cself X3 hexec hown (wk W (.classLink "java/lang/String" 10 "java/lang/String")) (hy.mv X3.warmed.alike hh3).1 (g := (mkF m 15 #[.val (.ref x), .val (.ref y), .unset] [.ref y])) rfl (rest := []) rfl (hb hbytes d15)
    have hh5 := q5.trans hh3
    have c6 : Steps p.tables e below (s₁.setTop (entryFrame m #[.ref x, .ref y] 3)) (T5.setTop (mkF m 19 #[.val (.ref x), .val (.ref y), .val (.ref y)] [])) := (c4.trans (st5 _ (Steps.refl _))).trans (by
      refine XS.astoreN X5.here hexec rfl (hb hbytes d18) rfl rfl rfl ?_
      exact Steps.refl _)
    obtain ⟨T7, X7, q7, st7⟩ := X5.sget hexec hown (wk W (.fieldLink "java/lang/String" 38 "java/lang/String" "COMPACT_STRINGS" "Z")) s1 (fun _ _ h => by rw [hh5]; exact h) (g := (mkF m 19 #[.val (.ref x), .val (.ref y), .val (.ref y)] [])) rfl (hb hbytes d19)
    have hh7 := q7.trans hh5
    have c8 : Steps p.tables e below (s₁.setTop (entryFrame m #[.ref x, .ref y] 3)) (T7.setTop (mkF m 26 #[.val (.ref x), .val (.ref y), .val (.ref y)] [.ref x])) := (c6.trans (st7 _ (Steps.refl _))).trans (by
      refine XS.ifNo X7.here hexec rfl (hb hbytes d22) rfl (i0_eq_f hz) ?_
      refine XS.aloadN X7.here hexec rfl (hb hbytes d25) rfl rfl ?_
      exact Steps.refl _)
    obtain ⟨T9, X9, q9, st9⟩ := X7.hget hexec hown (wk W (.fieldLink "java/lang/String" 15 "java/lang/String" "coder" "B")) (hx.mv X7.warmed.alike hh7).2.2.1 (g := (mkF m 26 #[.val (.ref x), .val (.ref y), .val (.ref y)] [.ref x])) rfl (rest := []) rfl (hb hbytes d26)
    have hh9 := q9.trans hh7
    have c10 : Steps p.tables e below (s₁.setTop (entryFrame m #[.ref x, .ref y] 3)) (T9.setTop (mkF m 30 #[.val (.ref x), .val (.ref y), .val (.ref y)] [.ref y, .int cd])) := (c8.trans (st9 _ (Steps.refl _))).trans (by
      refine XS.aloadN X9.here hexec rfl (hb hbytes d29) rfl rfl ?_
      exact Steps.refl _)
    obtain ⟨T11, X11, q11, st11⟩ := X9.hget hexec hown (wk W (.fieldLink "java/lang/String" 15 "java/lang/String" "coder" "B")) (hy.mv X9.warmed.alike hh9).2.2.1 (g := (mkF m 30 #[.val (.ref x), .val (.ref y), .val (.ref y)] [.ref y, .int cd])) rfl (rest := [.int cd]) rfl (hb hbytes d30)
    have hh11 := q11.trans hh9
    have c12 : Steps p.tables e below (s₁.setTop (entryFrame m #[.ref x, .ref y] 3)) (T11.setTop (mkF m 33 #[.val (.ref x), .val (.ref y), .val (.ref y)] [.int cd', .int cd])) := c10.trans (st11 _ (Steps.refl _))
    by_cases hcd : cd = cd'
    · subst hcd
      have c13 : Steps p.tables e below (s₁.setTop (entryFrame m #[.ref x, .ref y] 3)) (T11.setTop (mkF m 37 #[.val (.ref x), .val (.ref y), .val (.ref y)] [.ref x])) := c12.trans (by
        refine XS.icmpNo X11.here hexec rfl (hb hbytes d33) rfl (ii_ne_f rfl) ?_
        refine XS.aloadN X11.here hexec rfl (hb hbytes d36) rfl rfl ?_
        exact Steps.refl _)
      obtain ⟨T14, X14, q14, st14⟩ := X11.hget hexec hown (wk W (.fieldLink "java/lang/String" 9 "java/lang/String" "value" "[B")) (hx.mv X11.warmed.alike hh11).2.1 (g := (mkF m 37 #[.val (.ref x), .val (.ref y), .val (.ref y)] [.ref x])) rfl (rest := []) rfl (hb hbytes d37)
      have hh14 := q14.trans hh11
      have c15 : Steps p.tables e below (s₁.setTop (entryFrame m #[.ref x, .ref y] 3)) (T14.setTop (mkF m 41 #[.val (.ref x), .val (.ref y), .val (.ref y)] [.ref y, .ref t])) := (c13.trans (st14 _ (Steps.refl _))).trans (by
        refine XS.aloadN X14.here hexec rfl (hb hbytes d40) rfl rfl ?_
        exact Steps.refl _)
      obtain ⟨T16, X16, q16, st16⟩ := X14.hget hexec hown (wk W (.fieldLink "java/lang/String" 9 "java/lang/String" "value" "[B")) (hy.mv X14.warmed.alike hh14).2.1 (g := (mkF m 41 #[.val (.ref x), .val (.ref y), .val (.ref y)] [.ref y, .ref t])) rfl (rest := [.ref t]) rfl (hb hbytes d41)
      have hh16 := q16.trans hh14
      have c17 : Steps p.tables e below (s₁.setTop (entryFrame m #[.ref x, .ref y] 3)) (T16.setTop (mkF m 44 #[.val (.ref x), .val (.ref y), .val (.ref y)] [.ref t', .ref t])) := c15.trans (st16 _ (Steps.refl _))
      obtain ⟨v18, T18, X18, E18, g18⟩ := X16.callS hexec (LEq.law l t V t' V') hown (wks W (staticW "java/lang/String" 541 LEq.yN)) (wk W LEq.tab) (W := 0) (Nat.le_of_ble_eq_true rfl) (Nat.le_of_ble_eq_true rfl) (Nat.le_refl _) (Nat.le_refl _) (g := (mkF m 44 #[.val (.ref x), .val (.ref y), .val (.ref y)] [.ref t', .ref t])) rfl (by rw [hml]; rfl) c17 (argsL := [.ref t, .ref t']) (rest := []) rfl rfl (by show 2 * 0 + 0 ≤ _; decide) (hb hbytes d44) (⟨rfl, hx.2.2.2.1.mv X16.warmed.alike hh16, hx.2.2.2.2.1.ty, hy.2.2.2.1.mv X16.warmed.alike hh16, hy.2.2.2.2.1.ty⟩)
      obtain ⟨v, rfl, q18, hv⟩ := E18
      have iff := Cod.eqv hx.2.2.2.2.1 hy.2.2.2.2.1 hx.2.2.2.2.2 hy.2.2.2.2.2
      rcases hv with ⟨rfl, he⟩ | ⟨rfl, he⟩
      · have c19 : Steps p.tables e below (s₁.setTop (entryFrame m #[.ref x, .ref y] 3)) (T18.setTop (mkF m 55 #[.val (.ref x), .val (.ref y), .val (.ref y)] [.int 1])) := Steps.trans g18 (by
          refine XS.ifNo X18.here hexec rfl (hb hbytes d47) rfl (i0_eq_f (by decide)) ?_
          refine iconstV X18.here hexec rfl 1 (hb hbytes d50) (by decide) ?_
          refine XS.goto X18.here hexec rfl (pc0 := 51) rfl (hb hbytes d51) (by decide) rfl ?_
          exact Steps.refl _)
        exact ⟨T18, some (.int 1), _, _, _, X18, rfl, rfl, rfl, (fun h => by cases h), ⟨1, rfl, q18.trans hh16, Or.inl ⟨rfl, iff.mp he⟩⟩, fun fs hl => c19.trans (X18.ireturnOut hexec hret rfl (Or.inr (Or.inl rfl)) (hb hbytes d55) hl)⟩
      · have c19 : Steps p.tables e below (s₁.setTop (entryFrame m #[.ref x, .ref y] 3)) (T18.setTop (mkF m 55 #[.val (.ref x), .val (.ref y), .val (.ref y)] [.int 0])) := Steps.trans g18 (by
          refine XS.ifYes X18.here hexec rfl (pc0 := 47) rfl (hb hbytes d47) rfl (i0_eq_t rfl) (by decide) rfl ?_
          refine iconstV X18.here hexec rfl 0 (hb hbytes d54) (by decide) ?_
          exact Steps.refl _)
        exact ⟨T18, some (.int 0), _, _, _, X18, rfl, rfl, rfl, (fun h => by cases h), ⟨0, rfl, q18.trans hh16, Or.inr ⟨rfl, fun q => he (iff.mpr q)⟩⟩, fun fs hl => c19.trans (X18.ireturnOut hexec hret rfl (Or.inr (Or.inl rfl)) (hb hbytes d55) hl)⟩
    · have c13 : Steps p.tables e below (s₁.setTop (entryFrame m #[.ref x, .ref y] 3)) (T11.setTop (mkF m 55 #[.val (.ref x), .val (.ref y), .val (.ref y)] [.int 0])) := c12.trans (by
        refine XS.icmpYes X11.here hexec rfl (pc0 := 33) rfl (hb hbytes d33) rfl (ii_ne_t hcd) (by decide) rfl ?_
        refine iconstV X11.here hexec rfl 0 (hb hbytes d54) (by decide) ?_
        exact Steps.refl _)
      exact ⟨T11, some (.int 0), _, _, _, X11, rfl, rfl, rfl, (fun h => by cases h), ⟨0, rfl, hh11, Or.inr ⟨rfl, Cod.dif hx.2.2.2.2.1 hy.2.2.2.2.1 hcd⟩⟩, fun fs hl => c13.trans (X11.ireturnOut hexec hret rfl (Or.inr (Or.inl rfl)) (hb hbytes d55) hl)⟩
theorem pays {l : Launch} {R : Room} {p : Program} {e : Env} {below : List Frame} {s : State} {sargs : Array Value} {len W : Nat} (x t : Addr) (V : Cell) (cd : Int32) (n : Nat) (f : Nat → Int32) (y t' : Addr) (V' : Cell) (cd' : Int32) (k : Nat) (g : Nat → Int32) (z : Int32) (htab : tab.before sargs s = true) (hfr : 2 ≤ R.frames) (hlo : W + 28 ≤ R.locals) :
    Back l R p e below s sargs yN len W (fun A₁ a₁ => A₁.cells + 0 ≤ R.cells ∧ A₁.slots + 0 ≤ R.slots ∧ P x t V cd n f y t' V' cd' k g z a₁ A₁.U) (fun A₁ _ v₁ B₁ => Says01 (SameT n f k g) v₁ A₁.U B₁.U ∧ B₁.locs = A₁.locs ++ [] ∧ B₁.cells = A₁.cells + 0 ∧ B₁.slots = A₁.slots + 0) :=
  (law l x t V cd n f y t' V' cd' k g z).pays htab hfr (by omega)
end SEq
end StrChars
namespace StrChars.Road
open Jvm Sem ClassFile Op Lib Jvm.Stand Jvm.Free Jvm.Free.XT
open Jvm.Lib.Cold (StaticIs)
/-- the words of String.equals(Object) -/
abbrev wordsEq : List Jvm.Cond := [.code SEq.yN SEq.yB 3 (some .boolean), .initialized ST, .classLink ST 10 ST, .fieldLink ST 38 ST "COMPACT_STRINGS" "Z", .fieldLink ST 15 ST "coder" "B", .fieldLink ST 9 ST "value" "[B", .methodLink ST 541 LEq.yN, .static LEq.yN, .code LEq.yN LEq.yB 3 (some .boolean), .initialized "java/lang/StringLatin1"]
theorem tabEq_of {a : Array Value} {s : State} (h : ∀ w ∈ wordsEq, w.before a s = true) : SEq.tab.before a s = true := by
  have hl : LEq.tab.before a s = true := unparts (wk h (.code LEq.yN LEq.yB 3 (some .boolean))) (wks h (.initialized LEq.yN.cls :: LEq.site))
  have q := consq hl h
  exact unparts (wk q (.code SEq.yN SEq.yB 3 (some .boolean))) (wks q (.initialized SEq.yN.cls :: SEq.site))
theorem movedEq {Z s : State} {a0 args : Array Value} (hZ : Z.Warmed39 s.vm) (hw : ∀ d ∈ wordsEq, d.before a0 Z = true) : ∀ d ∈ wordsEq, d.before args s = true := fun d hd => by
  have t : ∀ d ∈ wordsEq, (d.onTables && d.keepsFace) = true := by decide +kernel
  exact RoadKit.mv hZ (hw d hd) (t d hd)
/-- the road's facts of a String, as the laws ask it -/
theorem txt_of {Z U : State} {a0 : Array Value} {kI : Nat} (wi : (Jvm.Cond.instantiable ST kI).before a0 Z = true) (al : Z.vm.Alike U.vm) {x t : Addr} {kb : ClassId} {cs : List Int32} {cd N2 : Int32} {vs : List Value} (E : RoadKit.Exa Z U.heap x ST) (V : RoadKit.Fld Z U.heap x ST "value" "[B" (.ref t)) (C : RoadKit.Fld Z U.heap x ST "coder" "B" (.int cd)) (K : RoadKit.Arv Z U.heap t kb .byte N2 vs (.int 0)) (hc : CodA cs cd N2 vs) (hb : ∀ c ∈ cs, ¬ c < 0 ∧ ¬ (65535 : Int32) < c) (l2 : cs.length ≤ 4000) :
    ∃ A, Txt x t A cd cs.length (fun j => cs.getD j 0) U := by
  obtain ⟨A, K1, K2, K3, K4, K5, K6⟩ := K
  have hcod := hc.cod (by omega) K3 K5
  obtain ⟨D, fV, fC, hB, F1, F2, g1, g2, -, -⟩ := strObj wi al E V C
  exact ⟨A, ⟨_, hB.2.2.1, D, hB.1, rfl, by cases q : D.vm <;> first | rfl | exact absurd q (hB.2.1.2 _)⟩, Has.of hB F1 g1, Has.of hB F2 g2, ⟨K1.1, State.isArrayOf_alike al K1.2.1, K1.2.2, by rcases hcod with ⟨-, q, -⟩ | ⟨-, q, -⟩ <;> omega⟩, hcod, fun j hj => by
    have e : cs.getD j 0 = cs[j] := by simp [List.getD_eq_getElem?_getD, hj]
    show ¬ cs.getD j 0 < 0 ∧ ¬ 65535 < cs.getD j 0
    rw [e]; exact hb _ (List.getElem_mem _)⟩
theorem same_list (cs ds : List Int32) : SameT cs.length (fun j => cs.getD j 0) ds.length (fun j => ds.getD j 0) ↔ cs = ds := by
  constructor
  · rintro ⟨e, q⟩
    refine List.ext_getElem e fun j h1 h2 => ?_
    have := q j h1
    simpa [List.getD_eq_getElem?_getD, h1, h2] using this
  · rintro rfl
    exact ⟨rfl, fun _ _ => rfl⟩
/-- **equals(Object) OF TWO SUCH STRINGS**: 1 just where the chars are the same -/
theorem eqW {p : Program} {l : Launch} {e : Env} {R : Room} {s : State} {args : Array Value} {below : List Frame} {len W : Nat} {Z : State} {a0 : Array Value} {h : Heap} (hZ : Z.Warmed39 s.vm) (hw : ∀ d ∈ wordsEq, d.before a0 Z = true) {kI : Nat} (wi : (Jvm.Cond.instantiable ST kI).before a0 Z = true)
    {x t : Addr} {kb : ClassId} {cs : List Int32} {cd N2 : Int32} {vs : List Value} (E : RoadKit.Exa Z h x ST) (V : RoadKit.Fld Z h x ST "value" "[B" (.ref t)) (C : RoadKit.Fld Z h x ST "coder" "B" (.int cd)) (K : RoadKit.Arv Z h t kb .byte N2 vs (.int 0)) (hc : CodA cs cd N2 vs) (hb : ∀ c ∈ cs, ¬ c < 0 ∧ ¬ (65535 : Int32) < c) (l2 : cs.length ≤ 4000)
    {y t' : Addr} {kb' : ClassId} {ds : List Int32} {cd' N2' : Int32} {vs' : List Value} (E' : RoadKit.Exa Z h y ST) (V' : RoadKit.Fld Z h y ST "value" "[B" (.ref t')) (C' : RoadKit.Fld Z h y ST "coder" "B" (.int cd')) (K' : RoadKit.Arv Z h t' kb' .byte N2' vs' (.int 0)) (hc' : CodA ds cd' N2' vs') (hb' : ∀ c ∈ ds, ¬ c < 0 ∧ ¬ (65535 : Int32) < c) (l2' : ds.length ≤ 4000)
    {z : Int32} (S : RoadKit.Sta Z h ST "COMPACT_STRINGS" "Z" (.int z)) (hz : ¬ z = 0) (hfr : 2 ≤ R.frames) (hlo : W + 28 ≤ R.locals) :
    Back l R p e below s args (⟨"java/lang/String", "equals", "(Ljava/lang/Object;)Z"⟩ : MethodName) len W (fun P a => a = #[.ref x, .ref y] ∧ P.U.heap = h ∧ P.cells + 0 ≤ R.cells ∧ P.slots + 0 ≤ R.slots)
      (fun P _ v B => ∃ L, (((v = some (.int 1) ∧ cs = ds) ∨ (v = some (.int 0) ∧ ¬ cs = ds)) ∧ L = [] ∧ B.U.heap = h) ∧ B.locs = P.locs ++ L ∧ B.cells = P.cells + 0 ∧ B.slots = P.slots + 0) := by
  intro m meth c P g ig mk a X hg hsize hdg hW hn hp'
  obtain ⟨rfl, rfl, r1, r2⟩ := hp'
  have al : Z.vm.Alike P.U.vm := hZ.alike.trans X.warmed.alike
  obtain ⟨A, hx⟩ := txt_of wi al E V C K hc hb l2
  obtain ⟨A', hy⟩ := txt_of wi al E' V' C' K' hc' hb' l2'
  obtain ⟨v, B, X', ⟨⟨w, hv, hh, hq⟩, hl, hk, hs⟩, st⟩ := SEq.pays x t A cd cs.length (fun j => cs.getD j 0) y t' A' cd' ds.length (fun j => ds.getD j 0) z (tabEq_of (movedEq hZ hw)) hfr hlo m meth c P g ig mk _ X hg hsize hdg hW hn ⟨r1, r2, rfl, hx, hy, sta_is al S, hz⟩
  refine ⟨v, B, X', ⟨[], ⟨?_, rfl, hh⟩, hl, hk, hs⟩, st⟩
  rcases hq with ⟨rfl, q⟩ | ⟨rfl, q⟩
  · exact Or.inl ⟨hv, (same_list cs ds).mp q⟩
  · exact Or.inr ⟨hv, fun e => q ((same_list cs ds).mpr e)⟩
end StrChars.Road
namespace StrChars.Road
open Jvm Sem ClassFile Op Lib Jvm.Stand Jvm.Free Jvm.Free.XT
open Jvm.Lib.Cold (StaticIs)
/-- what backV says of its String, as the contracts of this text ask it: cs's low bytes, coder 0 -/
theorem codOf {cs : List Int32} {n : Nat} (hn : cs.length = n) (hb : ∀ c ∈ cs, ¬ 255 < c) : CodA cs 0 (Int32.ofNat n) ((cs.map lo8).map Value.int) := Or.inl ⟨rfl, by rw [hn], by simp [List.map_map, Function.comp_def], hb⟩
end StrChars.Road
end Jvm.Pilot.@@N@@
namespace Jvm.Pilot.@@N@@
open Jvm Jvm.ClassFile Sem Op Lib Jvm.Free Jvm.Stand Jvm.LawKit Jvm.RoadKit Bundle Jvm.Pilot.@@N@@.Jvm.D
section OwnKit
variable {Z : State} {EL : List (String × Nat)} {a0 : Array Value} {n0 : Nat} {h0 : Heap} {ws : List Addr} {own : String} {bytes : ByteArray} {mx : Nat} {p : Program} {l : Launch} {e : Env} {R : Room} {s : State} {m : MethodId} {args : Array Value} {below : List Frame} {meth : Method} {c : Code} {sv : List Addr} {T : State} {h : Heap} {k n : Nat} {P : Outcome → State → Prop} {pc : Nat} {Ls : Array Slot} {st : List Value}
def OGo (tb : Tables) (e : Env) (below : List Frame) (P : Outcome → State → Prop) (T : State) (g : JFrame) : Prop := ∃ (t : State) (o : Outcome), Steps tb e below (T.setTop g) t ∧ t.status = .running ∧ Ended t below o ∧ P o t
theorem og {tb : Tables} {T' : State} {g g' : JFrame} (st : ∀ t, Steps tb e below (T'.setTop g') t → Steps tb e below (T.setTop g) t) (K : OGo tb e below P T' g') : OGo tb e below P T g := by
  obtain ⟨t, o, h1, h2⟩ := K
  exact ⟨t, o, st t h1, h2⟩
def OEnd (Z : State) (EL : List (String × Nat)) (n0 : Nat) (h0 : Heap) (ws : List Addr) (s : State) (Q : Option Value → Heap → Prop) (k n : Nat) (o : Outcome) (t : State) : Prop :=
  ∃ v L, o = .returned v ∧ (Fr n0 L ∧ Keep h0 t.heap ws ∧ Q v t.heap) ∧ CHr Z EL s.vm s.heap t.vm t.heap ∧ ReturnedEndW s o t L k n ∧ (EL = [] → FrameEnd s o t L k n)
def OIn (Z : State) (EL : List (String × Nat)) (a0 : Array Value) (n0 : Nat) (h0 : Heap) (ws : List Addr) (own : String) (s : State) (m : MethodId) (sv : List Addr) (vm0 : Vm) (locs : List Loc) (h : Heap) : Prop :=
  s.heap = h0 ∧ Old Z n0 h ∧ Keep h0 h ws ∧ (∃ k0, s.Since vm0 k0 ∧ k0 ≤ h.size) ∧ Z.Warmed39 vm0 ∧ vm0.findClass own = some m.cls ∧ EW Z a0 EL ∧ CHr Z EL s.vm s.heap vm0 h ∧ (EL = [] → vm0 = s.vm) ∧ Fr n0 locs ∧ ∀ x ∈ sv, n0 ≤ x ∧ x < h.size ∧ (x ∈ ws ∨ h0.size ≤ x) ∧ Safe Z EL vm0 h x
def OSt (Z : State) (EL : List (String × Nat)) (a0 : Array Value) (n0 : Nat) (h0 : Heap) (ws : List Addr) (own : String) (bytes : ByteArray) (mx : Nat) (p : Program) (l : Launch) (e : Env) (R : Room) (s : State) (m : MethodId) (args : Array Value) (below : List Frame) (meth : Method) (c : Code) (sv : List Addr) (T : State) (h : Heap) (k n : Nat) : Prop :=
  p.tables.exec = Jvm.exec ∧ c.code = bytes ∧ c.maxLocals = mx ∧ T.heap = h ∧ meth.locks = false ∧ ∃ (vm0 : Vm) (locs : List Loc), Stand p l e R (s.setVm vm0) m args below meth c T locs k n ∧ OIn Z EL a0 n0 h0 ws own s m sv vm0 locs h
theorem OSt.here (X : OSt Z EL a0 n0 h0 ws own bytes mx p l e R s m args below meth c sv T h k n) : At T m c below := by obtain ⟨-, -, -, -, -, _, _, Y, -⟩ := X; exact Y.here
theorem OSt.hx (X : OSt Z EL a0 n0 h0 ws own bytes mx p l e R s m args below meth c sv T h k n) : p.tables.exec = Jvm.exec := X.1
theorem OSt.hd (X : OSt Z EL a0 n0 h0 ws own bytes mx p l e R s m args below meth c sv T h k n) {r : Except ClassFile.DecodeError (ClassFile.Instr × Nat)} (hd : decode bytes pc = r) : decode c.code pc = r := hb X.2.1 hd
theorem OSt.old (X : OSt Z EL a0 n0 h0 ws own bytes mx p l e R s m args below meth c sv T h k n) : Old Z n0 h := by obtain ⟨-, -, -, -, -, _, _, -, -, I, -⟩ := X; exact I
theorem OSt.kept (X : OSt Z EL a0 n0 h0 ws own bytes mx p l e R s m args below meth c sv T h k n) : Keep h0 h ws := by obtain ⟨-, -, -, -, -, _, _, -, -, -, I, -⟩ := X; exact I
theorem OSt.more (X : OSt Z EL a0 n0 h0 ws own bytes mx p l e R s m args below meth c sv T h k n) {k' n' : Nat} (hk : k ≤ k') (hn : n ≤ n') : OSt Z EL a0 n0 h0 ws own bytes mx p l e R s m args below meth c sv T h k' n' := by
  obtain ⟨a1, a2, a3, a4, a5, vm0, locs, Y, I⟩ := X
  exact ⟨a1, a2, a3, a4, a5, vm0, locs, Y.more hk hn, I⟩
theorem OSt.less (X : OSt Z EL a0 n0 h0 ws own bytes mx p l e R s m args below meth c sv T h k n) {sv' : List Addr} (q : ∀ x ∈ sv', x ∈ sv) : OSt Z EL a0 n0 h0 ws own bytes mx p l e R s m args below meth c sv' T h k n := by
  obtain ⟨a1, a2, a3, a4, a5, vm0, locs, Y, b1, b2, b3, b4, b5, b6, b7, b8, b9, b10, b11⟩ := X
  exact ⟨a1, a2, a3, a4, a5, vm0, locs, Y, b1, b2, b3, b4, b5, b6, b7, b8, b9, b10, fun x hx => b11 x (q x hx)⟩
theorem OIn.ext {vm0 : Vm} {locs : List Loc} {h' : Heap} (I : OIn Z EL a0 n0 h0 ws own s m sv vm0 locs h) (E : Ext h h') : OIn Z EL a0 n0 h0 ws own s m sv vm0 locs h' := by
  obtain ⟨b1, b2, b3, ⟨k0, b4, b4'⟩, b5, b6, b7, b8, b9, b10, b11⟩ := I
  exact ⟨b1, b2.ext E, b3.ext E, ⟨k0, b4, Nat.le_trans b4' E.1⟩, b5, b6, b7, b8.trans (CHr.ext E b8.1), b9, b10, fun x hx => let q := b11 x hx; ⟨q.1, Nat.lt_of_lt_of_le q.2.1 E.1, q.2.2.1, Safe.ext E b8.1 q.2.2.2⟩⟩
theorem OIn.new {vm0 : Vm} {locs : List Loc} {h' : Heap} (I : OIn Z EL a0 n0 h0 ws own s m sv vm0 locs h) (E : Ext h h') {b : Addr} (h1 : h.size ≤ b) (h2 : b < h'.size) : OIn Z EL a0 n0 h0 ws own s m (b :: sv) vm0 locs h' := by
  have I' := I.ext E
  obtain ⟨b1, b2, b3, -, -, -, -, b8, -⟩ := I
  obtain ⟨c1, c2, c3, c4, c5, c6, c7, c8, c9, c10, c11⟩ := I'
  refine ⟨c1, c2, c3, c4, c5, c6, c7, c8, c9, c10, fun x hx => ?_⟩
  rcases List.mem_cons.mp hx with rfl | hx
  · exact ⟨Nat.le_trans (Nat.le_of_eq b2.1.symm) (Nat.le_trans b2.2.1 h1), h2, Or.inr (Nat.le_trans b3.1 h1), Safe.ext E b8.1 (Safe.new h1)⟩
  · exact c11 x hx
theorem OIn.wr {vm0 : Vm} {locs : List Loc} {h' : Heap} (I : OIn Z EL a0 n0 h0 ws own s m sv vm0 locs h) {a : Addr} {sl : Nat} {v : Value} (ha : a ∈ sv) (W : Wr h h' a sl v) : OIn Z EL a0 n0 h0 ws own s m sv vm0 (locs ++ [⟨a, sl⟩]) h' := by
  obtain ⟨b1, b2, b3, ⟨k0, b4, b4'⟩, b5, b6, b7, b8, b9, b10, b11⟩ := I
  obtain ⟨q1, q2, q3, q4⟩ := b11 a ha
  refine ⟨b1, b2.wr W q1, b3.wr W q3, ⟨k0, b4, by rw [W.size]; exact b4'⟩, b5, b6, b7, b8.trans (CHr.wr W q4 b8.1), b9, b10.app fun y hy => ?_, fun x hx => let r := b11 x hx; ⟨r.1, by rw [W.size]; exact r.2.1, r.2.2.1, Safe.wr W q4 b8.1 r.2.2.2⟩⟩
  cases List.mem_singleton.mp hy; exact q1
theorem OIn.keep {vm0 : Vm} {locs : List Loc} {h' : Heap} (I : OIn Z EL a0 n0 h0 ws own s m sv vm0 locs h) {ws' : List Addr} {L : List Loc} (K : Keep h h' ws') (hs : ∀ x ∈ ws', x ∈ sv) (N : Fr n0 L) : OIn Z EL a0 n0 h0 ws own s m sv vm0 (locs ++ L) h' := by
  obtain ⟨b1, b2, b3, ⟨k0, b4, b4'⟩, b5, b6, b7, b8, b9, b10, b11⟩ := I
  have sf : ∀ x ∈ ws', Safe Z EL vm0 h x := fun x hx => (b11 x (hs x hx)).2.2.2
  exact ⟨b1, b2.keep K fun x hx => (b11 x (hs x hx)).1, b3.trans K fun x hx => (b11 x (hs x hx)).2.2.1, ⟨k0, b4, Nat.le_trans b4' K.1⟩, b5, b6, b7, b8.trans (CHr.keep K sf b8.1), b9, b10.app N, fun x hx => let r := b11 x hx; ⟨r.1, Nat.lt_of_lt_of_le r.2.1 K.1, r.2.2.1, Safe.keep K sf b8.1 r.2.2.2⟩⟩
theorem OIn.call {vm0 : Vm} {locs : List Loc} {h' : Heap} {vm1 : Vm} (I : OIn Z EL a0 n0 h0 ws own s m sv vm0 locs h) {ws' : List Addr} {L : List Loc} (K : Keep h h' ws') (hs : ∀ x ∈ ws', x ∈ sv) (N : Fr n0 L) (C : CHr Z EL vm0 h vm1 h') (S : (s.setVm vm0).Since vm1 h'.size) (hne : EL = [] → vm1 = vm0) : OIn Z EL a0 n0 h0 ws own s m sv vm1 (locs ++ L) h' := by
  obtain ⟨b1, b2, b3, ⟨k0, b4, b4'⟩, b5, b6, b7, b8, b9, b10, b11⟩ := I
  exact ⟨b1, b2.keep K fun x hx => (b11 x (hs x hx)).1, b3.trans K fun x hx => (b11 x (hs x hx)).2.2.1, ⟨_, b4.trans S (Nat.le_trans b4' K.1), Nat.le_refl _⟩, State.Warmed39.trans (t := s.setVm vm0) b5 S.1, by rw [S.1.alike.findClass]; exact b6, b7, b8.trans C, fun q => (hne q).trans (b9 q), b10.app N, fun x hx => let r := b11 x hx; ⟨r.1, Nat.lt_of_lt_of_le r.2.1 K.1, r.2.2.1, C.safe r.2.1 r.2.2.2⟩⟩
theorem og_aload (X : OSt Z EL a0 n0 h0 ws own bytes mx p l e R s m args below meth c sv T h k n) (pc' : Nat) {j : Nat} {v : Value} (hd : decode bytes pc = .ok (.aload j, 2)) (hl : Ls[j]? = some (.val (v))) (hv : v.isRef = true) (hq : pc' = pc + 2) (K : OGo p.tables e below P T (mkF m pc' Ls (v :: st))) : OGo p.tables e below P T (mkF m pc Ls st) := by
  subst hq
  exact og (fun _ q => XS.aload X.here X.hx rfl (X.hd hd) hl hv q) K
theorem og_aloadN (X : OSt Z EL a0 n0 h0 ws own bytes mx p l e R s m args below meth c sv T h k n) (pc' : Nat) {j : Fin 4} {v : Value} (hd : decode bytes pc = .ok (.aload_n j, 1)) (hl : Ls[j.val]? = some (.val (v))) (hv : v.isRef = true) (hq : pc' = pc + 1) (K : OGo p.tables e below P T (mkF m pc' Ls (v :: st))) : OGo p.tables e below P T (mkF m pc Ls st) := by
  subst hq
  exact og (fun _ q => XS.aloadN X.here X.hx rfl (X.hd hd) hl hv q) K
theorem og_iload (X : OSt Z EL a0 n0 h0 ws own bytes mx p l e R s m args below meth c sv T h k n) (pc' : Nat) {j : Nat} {v : Int32} (hd : decode bytes pc = .ok (.iload j, 2)) (hl : Ls[j]? = some (.val (.int v))) (hq : pc' = pc + 2) (K : OGo p.tables e below P T (mkF m pc' Ls (.int v :: st))) : OGo p.tables e below P T (mkF m pc Ls st) := by
  subst hq
  exact og (fun _ q => XS.iload X.here X.hx rfl (X.hd hd) hl q) K
theorem og_iloadN (X : OSt Z EL a0 n0 h0 ws own bytes mx p l e R s m args below meth c sv T h k n) (pc' : Nat) {j : Fin 4} {v : Int32} (hd : decode bytes pc = .ok (.iload_n j, 1)) (hl : Ls[j.val]? = some (.val (.int v))) (hq : pc' = pc + 1) (K : OGo p.tables e below P T (mkF m pc' Ls (.int v :: st))) : OGo p.tables e below P T (mkF m pc Ls st) := by
  subst hq
  exact og (fun _ q => XS.iloadN X.here X.hx rfl (X.hd hd) hl q) K
theorem og_lload (X : OSt Z EL a0 n0 h0 ws own bytes mx p l e R s m args below meth c sv T h k n) (pc' : Nat) {j : Nat} {v : Int64} (hd : decode bytes pc = .ok (.lload j, 2)) (hl : Ls[j]? = some (.val (.long v))) (hq : pc' = pc + 2) (K : OGo p.tables e below P T (mkF m pc' Ls (.long v :: st))) : OGo p.tables e below P T (mkF m pc Ls st) := by
  subst hq
  exact og (fun _ q => XT.lload X.here X.hx rfl (X.hd hd) hl q) K
theorem og_lloadN (X : OSt Z EL a0 n0 h0 ws own bytes mx p l e R s m args below meth c sv T h k n) (pc' : Nat) {j : Fin 4} {v : Int64} (hd : decode bytes pc = .ok (.lload_n j, 1)) (hl : Ls[j.val]? = some (.val (.long v))) (hq : pc' = pc + 1) (K : OGo p.tables e below P T (mkF m pc' Ls (.long v :: st))) : OGo p.tables e below P T (mkF m pc Ls st) := by
  subst hq
  exact og (fun _ q => XT.lloadN X.here X.hx rfl (X.hd hd) hl q) K
theorem og_iconst (X : OSt Z EL a0 n0 h0 ws own bytes mx p l e R s m args below meth c sv T h k n) (pc' : Nat) (v : Int32) {i : Int} (hd : decode bytes pc = .ok (.iconst i, 1)) (hv : Int32.ofInt i = v) (hq : pc' = pc + 1) (K : OGo p.tables e below P T (mkF m pc' Ls (.int v :: st))) : OGo p.tables e below P T (mkF m pc Ls st) := by
  subst hq hv
  exact og (fun _ q => XS.iconst X.here X.hx rfl (X.hd hd) q) K
theorem og_bipush (X : OSt Z EL a0 n0 h0 ws own bytes mx p l e R s m args below meth c sv T h k n) (pc' : Nat) (v : Int32) {i : Int} (hd : decode bytes pc = .ok (.bipush i, 2)) (hv : (Int8.ofInt i).toInt32 = v) (hq : pc' = pc + 2) (K : OGo p.tables e below P T (mkF m pc' Ls (.int v :: st))) : OGo p.tables e below P T (mkF m pc Ls st) := by
  subst hq hv
  exact og (fun _ q => XS.bipush X.here X.hx rfl (X.hd hd) q) K
theorem og_sipush (X : OSt Z EL a0 n0 h0 ws own bytes mx p l e R s m args below meth c sv T h k n) (pc' : Nat) (v : Int32) {i : Int} (hd : decode bytes pc = .ok (.sipush i, 3)) (hv : (Int16.ofInt i).toInt32 = v) (hq : pc' = pc + 3) (K : OGo p.tables e below P T (mkF m pc' Ls (.int v :: st))) : OGo p.tables e below P T (mkF m pc Ls st) := by
  subst hq hv
  exact og (fun _ q => XS.sipush X.here X.hx rfl (X.hd hd) q) K
theorem og_lconst (X : OSt Z EL a0 n0 h0 ws own bytes mx p l e R s m args below meth c sv T h k n) (pc' : Nat) (v : Int64) {i : Fin 2} (hd : decode bytes pc = .ok (.lconst i, 1)) (hv : Int64.ofNat i = v) (hq : pc' = pc + 1) (K : OGo p.tables e below P T (mkF m pc' Ls (.long v :: st))) : OGo p.tables e below P T (mkF m pc Ls st) := by
  subst hq hv
  exact og (fun _ q => XT.lconst X.here X.hx rfl (X.hd hd) q) K
theorem og_aconstNull (X : OSt Z EL a0 n0 h0 ws own bytes mx p l e R s m args below meth c sv T h k n) (pc' : Nat)  (hd : decode bytes pc = .ok (.aconst_null, 1))  (hq : pc' = pc + 1) (K : OGo p.tables e below P T (mkF m pc' Ls (.null :: st))) : OGo p.tables e below P T (mkF m pc Ls st) := by
  subst hq
  exact og (fun _ q => XS.aconstNull X.here X.hx rfl (X.hd hd) q) K
theorem og_iadd (X : OSt Z EL a0 n0 h0 ws own bytes mx p l e R s m args below meth c sv T h k n) (pc' : Nat) {x y : Int32} (hd : decode bytes pc = .ok (.iadd, 1))  (hq : pc' = pc + 1) (K : OGo p.tables e below P T (mkF m pc' Ls (.int (x + y) :: st))) : OGo p.tables e below P T (mkF m pc Ls (.int y :: .int x :: st)) := by
  subst hq
  exact og (fun _ q => XS.iadd X.here X.hx rfl (X.hd hd) rfl q) K
theorem og_isub (X : OSt Z EL a0 n0 h0 ws own bytes mx p l e R s m args below meth c sv T h k n) (pc' : Nat) {x y : Int32} (hd : decode bytes pc = .ok (.isub, 1))  (hq : pc' = pc + 1) (K : OGo p.tables e below P T (mkF m pc' Ls (.int (x - y) :: st))) : OGo p.tables e below P T (mkF m pc Ls (.int y :: .int x :: st)) := by
  subst hq
  exact og (fun _ q => XS.isub X.here X.hx rfl (X.hd hd) rfl q) K
theorem og_iand (X : OSt Z EL a0 n0 h0 ws own bytes mx p l e R s m args below meth c sv T h k n) (pc' : Nat) {x y : Int32} (hd : decode bytes pc = .ok (.iand, 1))  (hq : pc' = pc + 1) (K : OGo p.tables e below P T (mkF m pc' Ls (.int (x &&& y) :: st))) : OGo p.tables e below P T (mkF m pc Ls (.int y :: .int x :: st)) := by
  subst hq
  exact og (fun _ q => XS.iand X.here X.hx rfl (X.hd hd) rfl q) K
theorem og_imul (X : OSt Z EL a0 n0 h0 ws own bytes mx p l e R s m args below meth c sv T h k n) (pc' : Nat) {x y : Int32} (hd : decode bytes pc = .ok (.imul, 1))  (hq : pc' = pc + 1) (K : OGo p.tables e below P T (mkF m pc' Ls (.int (x * y) :: st))) : OGo p.tables e below P T (mkF m pc Ls (.int y :: .int x :: st)) := by
  subst hq
  exact og (fun _ q => XS.imul X.here X.hx rfl (X.hd hd) rfl q) K
theorem og_ixor (X : OSt Z EL a0 n0 h0 ws own bytes mx p l e R s m args below meth c sv T h k n) (pc' : Nat) {x y : Int32} (hd : decode bytes pc = .ok (.ixor, 1))  (hq : pc' = pc + 1) (K : OGo p.tables e below P T (mkF m pc' Ls (.int (x ^^^ y) :: st))) : OGo p.tables e below P T (mkF m pc Ls (.int y :: .int x :: st)) := by
  subst hq
  exact og (fun _ q => XT.ixor X.here X.hx rfl (X.hd hd) rfl q) K
theorem og_ior (X : OSt Z EL a0 n0 h0 ws own bytes mx p l e R s m args below meth c sv T h k n) (pc' : Nat) {x y : Int32} (hd : decode bytes pc = .ok (.ior, 1))  (hq : pc' = pc + 1) (K : OGo p.tables e below P T (mkF m pc' Ls (.int (x ||| y) :: st))) : OGo p.tables e below P T (mkF m pc Ls (.int y :: .int x :: st)) := by
  subst hq
  exact og (fun _ q => XT.ior X.here X.hx rfl (X.hd hd) rfl q) K
theorem og_ishl (X : OSt Z EL a0 n0 h0 ws own bytes mx p l e R s m args below meth c sv T h k n) (pc' : Nat) {x y : Int32} (hd : decode bytes pc = .ok (.ishl, 1))  (hq : pc' = pc + 1) (K : OGo p.tables e below P T (mkF m pc' Ls (.int (x <<< (y &&& 31)) :: st))) : OGo p.tables e below P T (mkF m pc Ls (.int y :: .int x :: st)) := by
  subst hq
  exact og (fun _ q => XT.ishl X.here X.hx rfl (X.hd hd) rfl q) K
theorem og_ishr (X : OSt Z EL a0 n0 h0 ws own bytes mx p l e R s m args below meth c sv T h k n) (pc' : Nat) {x y : Int32} (hd : decode bytes pc = .ok (.ishr, 1))  (hq : pc' = pc + 1) (K : OGo p.tables e below P T (mkF m pc' Ls (.int (x >>> (y &&& 31)) :: st))) : OGo p.tables e below P T (mkF m pc Ls (.int y :: .int x :: st)) := by
  subst hq
  exact og (fun _ q => XT.ishr X.here X.hx rfl (X.hd hd) rfl q) K
theorem og_iushr (X : OSt Z EL a0 n0 h0 ws own bytes mx p l e R s m args below meth c sv T h k n) (pc' : Nat) {x y : Int32} (hd : decode bytes pc = .ok (.iushr, 1))  (hq : pc' = pc + 1) (K : OGo p.tables e below P T (mkF m pc' Ls (.int (Jvm.Free.XT.ushr x y) :: st))) : OGo p.tables e below P T (mkF m pc Ls (.int y :: .int x :: st)) := by
  subst hq
  exact og (fun _ q => XT.iushr X.here X.hx rfl (X.hd hd) rfl q) K
theorem og_idiv (X : OSt Z EL a0 n0 h0 ws own bytes mx p l e R s m args below meth c sv T h k n) (pc' : Nat) {x y : Int32} (hd : decode bytes pc = .ok (.idiv, 1)) (hy : y ≠ 0) (hq : pc' = pc + 1) (K : OGo p.tables e below P T (mkF m pc' Ls (.int (x / y) :: st))) : OGo p.tables e below P T (mkF m pc Ls (.int y :: .int x :: st)) := by
  subst hq
  exact og (fun _ q => XS.idiv X.here X.hx rfl (X.hd hd) rfl hy q) K
theorem og_irem (X : OSt Z EL a0 n0 h0 ws own bytes mx p l e R s m args below meth c sv T h k n) (pc' : Nat) {x y : Int32} (hd : decode bytes pc = .ok (.irem, 1)) (hy : y ≠ 0) (hq : pc' = pc + 1) (K : OGo p.tables e below P T (mkF m pc' Ls (.int (x % y) :: st))) : OGo p.tables e below P T (mkF m pc Ls (.int y :: .int x :: st)) := by
  subst hq
  have q0 : x - x / y * y = x % y := irem_eq_mod x y
  exact og (fun _ q => XS.irem X.here X.hx rfl (X.hd hd) rfl hy (by rw [q0]; exact q)) K
theorem og_ineg (X : OSt Z EL a0 n0 h0 ws own bytes mx p l e R s m args below meth c sv T h k n) (pc' : Nat) {x : Int32} (hd : decode bytes pc = .ok (.ineg, 1))  (hq : pc' = pc + 1) (K : OGo p.tables e below P T (mkF m pc' Ls (.int (-x) :: st))) : OGo p.tables e below P T (mkF m pc Ls (.int x :: st)) := by
  subst hq
  exact og (fun _ q => XS.ineg X.here X.hx rfl (X.hd hd) rfl q) K
theorem og_ladd (X : OSt Z EL a0 n0 h0 ws own bytes mx p l e R s m args below meth c sv T h k n) (pc' : Nat) {x y : Int64} (hd : decode bytes pc = .ok (.ladd, 1))  (hq : pc' = pc + 1) (K : OGo p.tables e below P T (mkF m pc' Ls (.long (x + y) :: st))) : OGo p.tables e below P T (mkF m pc Ls (.long y :: .long x :: st)) := by
  subst hq
  exact og (fun _ q => XT.ladd X.here X.hx rfl (X.hd hd) rfl q) K
theorem og_lsub (X : OSt Z EL a0 n0 h0 ws own bytes mx p l e R s m args below meth c sv T h k n) (pc' : Nat) {x y : Int64} (hd : decode bytes pc = .ok (.lsub, 1))  (hq : pc' = pc + 1) (K : OGo p.tables e below P T (mkF m pc' Ls (.long (x - y) :: st))) : OGo p.tables e below P T (mkF m pc Ls (.long y :: .long x :: st)) := by
  subst hq
  exact og (fun _ q => XT.lsub X.here X.hx rfl (X.hd hd) rfl q) K
theorem og_lmul (X : OSt Z EL a0 n0 h0 ws own bytes mx p l e R s m args below meth c sv T h k n) (pc' : Nat) {x y : Int64} (hd : decode bytes pc = .ok (.lmul, 1))  (hq : pc' = pc + 1) (K : OGo p.tables e below P T (mkF m pc' Ls (.long (x * y) :: st))) : OGo p.tables e below P T (mkF m pc Ls (.long y :: .long x :: st)) := by
  subst hq
  exact og (fun _ q => XT.lmul X.here X.hx rfl (X.hd hd) rfl q) K
theorem og_land (X : OSt Z EL a0 n0 h0 ws own bytes mx p l e R s m args below meth c sv T h k n) (pc' : Nat) {x y : Int64} (hd : decode bytes pc = .ok (.land, 1))  (hq : pc' = pc + 1) (K : OGo p.tables e below P T (mkF m pc' Ls (.long (x &&& y) :: st))) : OGo p.tables e below P T (mkF m pc Ls (.long y :: .long x :: st)) := by
  subst hq
  exact og (fun _ q => XT.land X.here X.hx rfl (X.hd hd) rfl q) K
theorem og_lor (X : OSt Z EL a0 n0 h0 ws own bytes mx p l e R s m args below meth c sv T h k n) (pc' : Nat) {x y : Int64} (hd : decode bytes pc = .ok (.lor, 1))  (hq : pc' = pc + 1) (K : OGo p.tables e below P T (mkF m pc' Ls (.long (x ||| y) :: st))) : OGo p.tables e below P T (mkF m pc Ls (.long y :: .long x :: st)) := by
  subst hq
  exact og (fun _ q => XT.lor X.here X.hx rfl (X.hd hd) rfl q) K
theorem og_lxor (X : OSt Z EL a0 n0 h0 ws own bytes mx p l e R s m args below meth c sv T h k n) (pc' : Nat) {x y : Int64} (hd : decode bytes pc = .ok (.lxor, 1))  (hq : pc' = pc + 1) (K : OGo p.tables e below P T (mkF m pc' Ls (.long (x ^^^ y) :: st))) : OGo p.tables e below P T (mkF m pc Ls (.long y :: .long x :: st)) := by
  subst hq
  exact og (fun _ q => XT.lxor X.here X.hx rfl (X.hd hd) rfl q) K
theorem og_lcmp (X : OSt Z EL a0 n0 h0 ws own bytes mx p l e R s m args below meth c sv T h k n) (pc' : Nat) {x y : Int64} (hd : decode bytes pc = .ok (.lcmp, 1))  (hq : pc' = pc + 1) (K : OGo p.tables e below P T (mkF m pc' Ls (.int (Jvm.Free.XT.cmpL x y) :: st))) : OGo p.tables e below P T (mkF m pc Ls (.long y :: .long x :: st)) := by
  subst hq
  exact og (fun _ q => XT.lcmp X.here X.hx rfl (X.hd hd) rfl q) K
theorem og_i2l (X : OSt Z EL a0 n0 h0 ws own bytes mx p l e R s m args below meth c sv T h k n) (pc' : Nat) {x : Int32} (hd : decode bytes pc = .ok (.i2l, 1))  (hq : pc' = pc + 1) (K : OGo p.tables e below P T (mkF m pc' Ls (.long x.toInt64 :: st))) : OGo p.tables e below P T (mkF m pc Ls (.int x :: st)) := by
  subst hq
  exact og (fun _ q => XT.i2l X.here X.hx rfl (X.hd hd) rfl q) K
theorem og_i2b (X : OSt Z EL a0 n0 h0 ws own bytes mx p l e R s m args below meth c sv T h k n) (pc' : Nat) {x : Int32} (hd : decode bytes pc = .ok (.i2b, 1))  (hq : pc' = pc + 1) (K : OGo p.tables e below P T (mkF m pc' Ls (.int x.toInt8.toInt32 :: st))) : OGo p.tables e below P T (mkF m pc Ls (.int x :: st)) := by
  subst hq
  exact og (fun _ q => XT.i2b X.here X.hx rfl (X.hd hd) rfl q) K
theorem og_i2c (X : OSt Z EL a0 n0 h0 ws own bytes mx p l e R s m args below meth c sv T h k n) (pc' : Nat) {x : Int32} (hd : decode bytes pc = .ok (.i2c, 1))  (hq : pc' = pc + 1) (K : OGo p.tables e below P T (mkF m pc' Ls (.int x.toUInt32.toUInt16.toUInt32.toInt32 :: st))) : OGo p.tables e below P T (mkF m pc Ls (.int x :: st)) := by
  subst hq
  exact og (fun _ q => XT.i2c X.here X.hx rfl (X.hd hd) rfl q) K
theorem og_i2s (X : OSt Z EL a0 n0 h0 ws own bytes mx p l e R s m args below meth c sv T h k n) (pc' : Nat) {x : Int32} (hd : decode bytes pc = .ok (.i2s, 1))  (hq : pc' = pc + 1) (K : OGo p.tables e below P T (mkF m pc' Ls (.int x.toInt16.toInt32 :: st))) : OGo p.tables e below P T (mkF m pc Ls (.int x :: st)) := by
  subst hq
  exact og (fun _ q => XT.i2s X.here X.hx rfl (X.hd hd) rfl q) K
theorem og_l2i (X : OSt Z EL a0 n0 h0 ws own bytes mx p l e R s m args below meth c sv T h k n) (pc' : Nat) {x : Int64} (hd : decode bytes pc = .ok (.l2i, 1))  (hq : pc' = pc + 1) (K : OGo p.tables e below P T (mkF m pc' Ls (.int x.toInt32 :: st))) : OGo p.tables e below P T (mkF m pc Ls (.long x :: st)) := by
  subst hq
  exact og (fun _ q => XT.l2i X.here X.hx rfl (X.hd hd) rfl q) K
theorem og_i2c8 (X : OSt Z EL a0 n0 h0 ws own bytes mx p l e R s m args below meth c sv T h k n) (pc' : Nat) {x : Int32} (hd : decode bytes pc = .ok (.i2c, 1)) (hq : pc' = pc + 1) (K : OGo p.tables e below P T (mkF m pc' Ls (.int (x &&& 255) :: st))) : OGo p.tables e below P T (mkF m pc Ls (.int (x &&& 255) :: st)) := by
  subst hq
  exact og (fun _ q => XT.i2c X.here X.hx rfl (X.hd hd) rfl (by rw [i2c_mask]; exact q)) K
theorem og_dup (X : OSt Z EL a0 n0 h0 ws own bytes mx p l e R s m args below meth c sv T h k n) (pc' : Nat) {x : Value} (hd : decode bytes pc = .ok (.dup, 1)) (hc : x.category = 1) (hq : pc' = pc + 1) (K : OGo p.tables e below P T (mkF m pc' Ls (x :: x :: st))) : OGo p.tables e below P T (mkF m pc Ls (x :: st)) := by
  subst hq
  exact og (fun _ q => XS.dup X.here X.hx rfl (X.hd hd) rfl hc q) K
theorem og_pop (X : OSt Z EL a0 n0 h0 ws own bytes mx p l e R s m args below meth c sv T h k n) (pc' : Nat) {x : Value} (hd : decode bytes pc = .ok (.pop, 1)) (hc : x.category = 1) (hq : pc' = pc + 1) (K : OGo p.tables e below P T (mkF m pc' Ls st)) : OGo p.tables e below P T (mkF m pc Ls (x :: st)) := by
  subst hq
  exact og (fun _ q => XT.pop X.here X.hx rfl (X.hd hd) rfl hc q) K
theorem og_dupX1 (X : OSt Z EL a0 n0 h0 ws own bytes mx p l e R s m args below meth c sv T h k n) (pc' : Nat) {x y : Value} (hd : decode bytes pc = .ok (.dup_x1, 1)) (hc : x.category = 1) (hc' : y.category = 1) (hq : pc' = pc + 1) (K : OGo p.tables e below P T (mkF m pc' Ls (x :: y :: x :: st))) : OGo p.tables e below P T (mkF m pc Ls (x :: y :: st)) := by
  subst hq
  exact og (fun _ q => XT.dupX1 X.here X.hx rfl (X.hd hd) rfl hc hc' q) K
theorem og_dup2 (X : OSt Z EL a0 n0 h0 ws own bytes mx p l e R s m args below meth c sv T h k n) (pc' : Nat) {x y : Value} (hd : decode bytes pc = .ok (.dup2, 1)) (hc : x.category = 1) (hc' : y.category = 1) (hq : pc' = pc + 1) (K : OGo p.tables e below P T (mkF m pc' Ls (x :: y :: x :: y :: st))) : OGo p.tables e below P T (mkF m pc Ls (x :: y :: st)) := by
  subst hq
  exact og (fun _ q => XT.dup2 X.here X.hx rfl (X.hd hd) rfl hc hc' q) K
theorem og_istore (X : OSt Z EL a0 n0 h0 ws own bytes mx p l e R s m args below meth c sv T h k n) (pc' : Nat) (l' : Array Slot) {j : Nat} {x : Int32} (hd : decode bytes pc = .ok (.istore j, 2)) (hl : storeLocals Ls j (.int x) = some l') (hq : pc' = pc + 2) (K : OGo p.tables e below P T (mkF m pc' l' st)) : OGo p.tables e below P T (mkF m pc Ls (.int x :: st)) := by
  subst hq
  exact og (fun _ q => XS.istore X.here X.hx rfl (X.hd hd) rfl hl q) K
theorem og_istoreN (X : OSt Z EL a0 n0 h0 ws own bytes mx p l e R s m args below meth c sv T h k n) (pc' : Nat) (l' : Array Slot) {j : Fin 4} {x : Int32} (hd : decode bytes pc = .ok (.istore_n j, 1)) (hl : storeLocals Ls j.val (.int x) = some l') (hq : pc' = pc + 1) (K : OGo p.tables e below P T (mkF m pc' l' st)) : OGo p.tables e below P T (mkF m pc Ls (.int x :: st)) := by
  subst hq
  exact og (fun _ q => XS.istoreN X.here X.hx rfl (X.hd hd) rfl hl q) K
theorem og_lstore (X : OSt Z EL a0 n0 h0 ws own bytes mx p l e R s m args below meth c sv T h k n) (pc' : Nat) (l' : Array Slot) {j : Nat} {x : Int64} (hd : decode bytes pc = .ok (.lstore j, 2)) (hl : storeLocals Ls j (.long x) = some l') (hq : pc' = pc + 2) (K : OGo p.tables e below P T (mkF m pc' l' st)) : OGo p.tables e below P T (mkF m pc Ls (.long x :: st)) := by
  subst hq
  exact og (fun _ q => XT.lstore X.here X.hx rfl (X.hd hd) rfl hl q) K
theorem og_lstoreN (X : OSt Z EL a0 n0 h0 ws own bytes mx p l e R s m args below meth c sv T h k n) (pc' : Nat) (l' : Array Slot) {j : Fin 4} {x : Int64} (hd : decode bytes pc = .ok (.lstore_n j, 1)) (hl : storeLocals Ls j.val (.long x) = some l') (hq : pc' = pc + 1) (K : OGo p.tables e below P T (mkF m pc' l' st)) : OGo p.tables e below P T (mkF m pc Ls (.long x :: st)) := by
  subst hq
  exact og (fun _ q => XT.lstoreN X.here X.hx rfl (X.hd hd) rfl hl q) K
theorem og_astore (X : OSt Z EL a0 n0 h0 ws own bytes mx p l e R s m args below meth c sv T h k n) (pc' : Nat) (l' : Array Slot) {j : Nat} {x : Value} (hd : decode bytes pc = .ok (.astore j, 2)) (hv : x.isRef = true) (hl : storeLocals Ls j x = some l') (hq : pc' = pc + 2) (K : OGo p.tables e below P T (mkF m pc' l' st)) : OGo p.tables e below P T (mkF m pc Ls (x :: st)) := by
  subst hq
  exact og (fun _ q => XS.astore X.here X.hx rfl (X.hd hd) rfl hv hl q) K
theorem og_astoreN (X : OSt Z EL a0 n0 h0 ws own bytes mx p l e R s m args below meth c sv T h k n) (pc' : Nat) (l' : Array Slot) {j : Fin 4} {x : Value} (hd : decode bytes pc = .ok (.astore_n j, 1)) (hv : x.isRef = true) (hl : storeLocals Ls j.val x = some l') (hq : pc' = pc + 1) (K : OGo p.tables e below P T (mkF m pc' l' st)) : OGo p.tables e below P T (mkF m pc Ls (x :: st)) := by
  subst hq
  exact og (fun _ q => XS.astoreN X.here X.hx rfl (X.hd hd) rfl hv hl q) K
theorem og_iinc (X : OSt Z EL a0 n0 h0 ws own bytes mx p l e R s m args below meth c sv T h k n) (pc' : Nat) (l' : Array Slot) {j : Nat} {i : Int} {x : Int32} (hd : decode bytes pc = .ok (.iinc j i, 3)) (hl : Ls[j]? = some (.val (.int x))) (hl' : storeLocals Ls j (.int (x + Int32.ofInt i)) = some l') (hq : pc' = pc + 3) (K : OGo p.tables e below P T (mkF m pc' l' st)) : OGo p.tables e below P T (mkF m pc Ls st) := by
  subst hq
  exact og (fun _ q => XS.iinc X.here X.hx rfl (X.hd hd) hl hl' q) K
theorem og_goto (X : OSt Z EL a0 n0 h0 ws own bytes mx p l e R s m args below meth c sv T h k n) (pc' : Nat)  {o : Int} (hd : decode bytes pc = .ok (.goto o, 3))  (ho : 0 ≤ (pc : Int) + o) (hp : ((pc : Int) + o).toNat = pc') (K : OGo p.tables e below P T (mkF m pc' Ls st)) : OGo p.tables e below P T (mkF m pc Ls st) := og (fun _ q => XS.goto X.here X.hx rfl rfl (X.hd hd) ho hp q) K
theorem og_ifY (X : OSt Z EL a0 n0 h0 ws own bytes mx p l e R s m args below meth c sv T h k n) (pc' : Nat) {cd : ClassFile.Cond} {x : Int32} {o : Int} (hd : decode bytes pc = .ok (.ifCond cd o, 3)) (hc : ifCond.holds cd x = true) (ho : 0 ≤ (pc : Int) + o) (hp : ((pc : Int) + o).toNat = pc') (K : OGo p.tables e below P T (mkF m pc' Ls st)) : OGo p.tables e below P T (mkF m pc Ls (.int x :: st)) := og (fun _ q => XS.ifYes X.here X.hx rfl rfl (X.hd hd) rfl hc ho hp q) K
theorem og_icmpY (X : OSt Z EL a0 n0 h0 ws own bytes mx p l e R s m args below meth c sv T h k n) (pc' : Nat) {cd : ClassFile.Cond} {x y : Int32} {o : Int} (hd : decode bytes pc = .ok (.if_icmp cd o, 3)) (hc : if_icmp.holds cd x y = true) (ho : 0 ≤ (pc : Int) + o) (hp : ((pc : Int) + o).toNat = pc') (K : OGo p.tables e below P T (mkF m pc' Ls st)) : OGo p.tables e below P T (mkF m pc Ls (.int y :: .int x :: st)) := og (fun _ q => XS.icmpYes X.here X.hx rfl rfl (X.hd hd) rfl hc ho hp q) K
theorem og_nullY (X : OSt Z EL a0 n0 h0 ws own bytes mx p l e R s m args below meth c sv T h k n) (pc' : Nat)  {o : Int} (hd : decode bytes pc = .ok (.ifnull o, 3))  (ho : 0 ≤ (pc : Int) + o) (hp : ((pc : Int) + o).toNat = pc') (K : OGo p.tables e below P T (mkF m pc' Ls st)) : OGo p.tables e below P T (mkF m pc Ls (.null :: st)) := og (fun _ q => XS.ifnullYes X.here X.hx rfl rfl (X.hd hd) rfl ho hp q) K
theorem og_nonnullY (X : OSt Z EL a0 n0 h0 ws own bytes mx p l e R s m args below meth c sv T h k n) (pc' : Nat) {b : Addr} {o : Int} (hd : decode bytes pc = .ok (.ifnonnull o, 3))  (ho : 0 ≤ (pc : Int) + o) (hp : ((pc : Int) + o).toNat = pc') (K : OGo p.tables e below P T (mkF m pc' Ls st)) : OGo p.tables e below P T (mkF m pc Ls (.ref b :: st)) := og (fun _ q => XT.ifnonnullYes X.here X.hx rfl rfl (X.hd hd) rfl ho hp q) K
theorem og_acmpY (X : OSt Z EL a0 n0 h0 ws own bytes mx p l e R s m args below meth c sv T h k n) (pc' : Nat) {cd : ClassFile.ACond} {x y : Value} {o : Int} (hd : decode bytes pc = .ok (.if_acmp cd o, 3)) (hx' : x.isRef = true) (hy' : y.isRef = true) (hc : Jvm.Free.XT.acmp cd x y = true) (ho : 0 ≤ (pc : Int) + o) (hp : ((pc : Int) + o).toNat = pc') (K : OGo p.tables e below P T (mkF m pc' Ls st)) : OGo p.tables e below P T (mkF m pc Ls (y :: x :: st)) := og (fun _ q => XT.acmpYes X.here X.hx rfl rfl (X.hd hd) rfl hx' hy' hc ho hp q) K
theorem og_ifN (X : OSt Z EL a0 n0 h0 ws own bytes mx p l e R s m args below meth c sv T h k n) (pc' : Nat) {cd : ClassFile.Cond} {o : Int} {x : Int32} (hd : decode bytes pc = .ok (.ifCond cd o, 3)) (hc : ifCond.holds cd x = false) (hq : pc' = pc + 3) (K : OGo p.tables e below P T (mkF m pc' Ls st)) : OGo p.tables e below P T (mkF m pc Ls (.int x :: st)) := by
  subst hq
  exact og (fun _ q => XS.ifNo X.here X.hx rfl (X.hd hd) rfl hc q) K
theorem og_icmpN (X : OSt Z EL a0 n0 h0 ws own bytes mx p l e R s m args below meth c sv T h k n) (pc' : Nat) {cd : ClassFile.Cond} {o : Int} {x y : Int32} (hd : decode bytes pc = .ok (.if_icmp cd o, 3)) (hc : if_icmp.holds cd x y = false) (hq : pc' = pc + 3) (K : OGo p.tables e below P T (mkF m pc' Ls st)) : OGo p.tables e below P T (mkF m pc Ls (.int y :: .int x :: st)) := by
  subst hq
  exact og (fun _ q => XS.icmpNo X.here X.hx rfl (X.hd hd) rfl hc q) K
theorem og_nullN (X : OSt Z EL a0 n0 h0 ws own bytes mx p l e R s m args below meth c sv T h k n) (pc' : Nat) {o : Int} {b : Addr} (hd : decode bytes pc = .ok (.ifnull o, 3))  (hq : pc' = pc + 3) (K : OGo p.tables e below P T (mkF m pc' Ls st)) : OGo p.tables e below P T (mkF m pc Ls (.ref b :: st)) := by
  subst hq
  exact og (fun _ q => XS.ifnullNo X.here X.hx rfl (X.hd hd) rfl q) K
theorem og_nonnullN (X : OSt Z EL a0 n0 h0 ws own bytes mx p l e R s m args below meth c sv T h k n) (pc' : Nat) {o : Int} (hd : decode bytes pc = .ok (.ifnonnull o, 3))  (hq : pc' = pc + 3) (K : OGo p.tables e below P T (mkF m pc' Ls st)) : OGo p.tables e below P T (mkF m pc Ls (.null :: st)) := by
  subst hq
  exact og (fun _ q => XT.ifnonnullNo X.here X.hx rfl (X.hd hd) rfl q) K
theorem og_acmpN (X : OSt Z EL a0 n0 h0 ws own bytes mx p l e R s m args below meth c sv T h k n) (pc' : Nat) {cd : ClassFile.ACond} {o : Int} {x y : Value} (hd : decode bytes pc = .ok (.if_acmp cd o, 3)) (hx' : x.isRef = true) (hy' : y.isRef = true) (hc : Jvm.Free.XT.acmp cd x y = false) (hq : pc' = pc + 3) (K : OGo p.tables e below P T (mkF m pc' Ls st)) : OGo p.tables e below P T (mkF m pc Ls (y :: x :: st)) := by
  subst hq
  exact og (fun _ q => XT.acmpNo X.here X.hx rfl (X.hd hd) rfl hx' hy' hc q) K
theorem own_nc8 (y : Int32) : nar .char (y &&& 255) = y &&& 255 := i2c_mask y
theorem own_u16 (u : UInt16) : (u.toUInt32.toInt32).toInt = u.toNat := by
  have hu := u.toNat_lt
  show ((u.toUInt32).toBitVec).toInt = _
  have hm : (u.toUInt32).toBitVec.toNat = u.toNat := by
    show (u.toUInt32).toNat = _
    simp
  rw [BitVec.toInt_eq_toNat_cond, hm, if_pos (by omega)]
theorem own_ncc (y : Int32) : nar .char (y.toUInt32.toUInt16.toUInt32.toInt32) = y.toUInt32.toUInt16.toUInt32.toInt32 := by
  have e : (y.toUInt32.toUInt16.toUInt32.toInt32).toUInt32.toUInt16 = y.toUInt32.toUInt16 := UInt16.toUInt16_toUInt32 _
  show ((y.toUInt32.toUInt16.toUInt32.toInt32).toUInt32.toUInt16).toUInt32.toInt32 = _
  rw [e]
theorem own_lat16 (y : Int32) : ¬ y.toUInt32.toUInt16.toUInt32.toInt32 < 0 ∧ ¬ (65535 : Int32) < y.toUInt32.toUInt16.toUInt32.toInt32 := by
  have h2 := (y.toUInt32.toUInt16).toNat_lt
  have e1 : (0 : Int32).toInt = 0 := (by decide)
  have e2 : (65535 : Int32).toInt = 65535 := (by decide)
  rw [Int32.lt_iff_toInt_lt, Int32.lt_iff_toInt_lt, own_u16, e1, e2]
  omega
theorem own_lat8 (x : Int32) : ¬ (x &&& 255) < 0 ∧ ¬ (255 : Int32) < (x &&& 255) := by
  have t : ∀ k : Fin 256, ¬ (Int32.ofNat k.val) < 0 ∧ ¬ (255 : Int32) < (Int32.ofNat k.val) := by decide +kernel
  have h : (x &&& 255).toBitVec.toNat < 256 := by
    simp only [Int32.toBitVec_and, BitVec.toNat_and]
    exact Nat.lt_succ_of_le Nat.and_le_right
  have e : (x &&& 255) = Int32.ofNat (x &&& 255).toBitVec.toNat := by
    apply Int32.toBitVec_inj.mp
    show _ = BitVec.ofNat 32 _
    rw [BitVec.ofNat_toNat]; simp
  rw [e]
  exact t ⟨_, h⟩
theorem own_up8 {c : Int32} (h : ¬ (255 : Int32) < c) : ¬ (65535 : Int32) < c := fun q => h (by rw [Int32.lt_iff_toInt_lt] at q ⊢; have e1 : (65535 : Int32).toInt = 65535 := rfl; have e2 : (255 : Int32).toInt = 255 := rfl; omega)
def own_stv (Z : State) (C n d : String) : Value := ((Term.static C n d).eval #[] Z none [] Z).getD .null
def own_sti (Z : State) (C n d : String) : Int32 := match (Term.static C n d).eval #[] Z none [] Z with | some (.int z) => z | _ => 0
theorem own_stv_of {Z : State} {C n d : String} {v : Value} {a : Array Value} (h : (Term.static C n d).eval a Z none [] Z = some v) : own_stv Z C n d = v := by
  have q : (Term.static C n d).eval #[] Z none [] Z = some v := h
  simp [own_stv, q]
theorem own_sti_of {Z : State} {C n d : String} {v : Int32} {a : Array Value} (h : (Term.static C n d).eval a Z none [] Z = some (.int v)) : own_sti Z C n d = v := by
  have q : (Term.static C n d).eval #[] Z none [] Z = some (.int v) := h
  simp [own_sti, q]
theorem own_l0 {P : Int32 → Prop} : ∀ c ∈ ([] : List Int32), P c := fun _ q => nomatch q
theorem own_lS {P : Int32 → Prop} {y : Int32} {M : List Int32} (q : P y) (r : ∀ x ∈ M, P x) : ∀ x ∈ y :: M, P x := fun x z => (List.mem_cons.mp z).elim (fun u => u ▸ q) (r x)
def own_N (x : Int32) : Nat := x.toBitVec.toNat
theorem own_N_lt (x : Int32) : own_N x < 4294967296 := x.toBitVec.isLt
theorem own_N_inj {x y : Int32} : own_N x = own_N y ↔ x = y := ⟨fun h => Int32.toBitVec_inj.mp (BitVec.eq_of_toNat_eq h), fun h => by rw [h]⟩
theorem own_N_and {x m : Int32} (k : Nat) (hm : m.toBitVec.toNat = 2 ^ k - 1) : own_N (x &&& m) = own_N x % 2 ^ k := by
  unfold own_N; rw [Int32.toBitVec_and, BitVec.toNat_and, hm, Nat.and_two_pow_sub_one_eq_mod]
theorem own_N_ushr {x j : Int32} (k : Nat) (hj : (j &&& 31).toUInt32.toNat = k) (hk : k < 32) : own_N (XT.ushr x j) = own_N x / 2 ^ k := by
  show (x.toUInt32 >>> (j &&& 31).toUInt32).toNat = x.toUInt32.toNat / 2 ^ k
  rw [UInt32.toNat_shiftRight, hj, Nat.mod_eq_of_lt hk, Nat.shiftRight_eq_div_pow]
theorem own_N3 (x : Int32) : own_N (x &&& 3) = own_N x % 4 := own_N_and 2 rfl
theorem own_N255 (x : Int32) : own_N (x &&& 255) = own_N x % 256 := own_N_and 8 rfl
theorem own_nbb (y : Int32) : (y.toInt8.toInt32).toInt8.toInt32 = y.toInt8.toInt32 := by simp
theorem own_zb {z : Int32} (h : z = 0 ∨ z = 1) : narrow .boolean (.int z) = .int z ∧ fits .boolean (.int z) = true := by rcases h with rfl | rfl <;> exact ⟨rfl, rfl⟩
theorem own_xor0 {a b : Int32} : a ^^^ b = 0 ↔ a = b := by
  rw [← Int32.toBitVec_inj, ← Int32.toBitVec_inj, Int32.toBitVec_xor]
  exact BitVec.xor_eq_zero_iff
theorem own_xor_ushr_and (x y j k : Int32) : XT.ushr (x ^^^ y) j &&& k = (XT.ushr x j &&& k) ^^^ (XT.ushr y j &&& k) := by
  apply Int32.toBitVec_inj.mp
  show ((x ^^^ y).toUInt32 >>> (j &&& 31).toUInt32).toBitVec &&& k.toBitVec = ((x.toUInt32 >>> (j &&& 31).toUInt32).toBitVec &&& k.toBitVec) ^^^ ((y.toUInt32 >>> (j &&& 31).toUInt32).toBitVec &&& k.toBitVec)
  have e : (x ^^^ y).toUInt32 = x.toUInt32 ^^^ y.toUInt32 := rfl
  rw [e, UInt32.toBitVec_shiftRight, UInt32.toBitVec_shiftRight, UInt32.toBitVec_shiftRight, UInt32.toBitVec_xor]
  ext i hi
  simp [Bool.and_xor_distrib_right]
theorem own_new (X : OSt Z EL a0 n0 h0 ws own bytes mx p l e R s m args below meth c sv T h k n) (pc' : Nat) {C : String} {index z : Nat} (hd : decode bytes pc = .ok (.new index, 3)) (w : (Cond.classLink own index C).before a0 Z = true) (wi : (Cond.instantiable C z).before a0 Z = true) (wz : (Cond.initialized C).before a0 Z = true) (hc : k + 1 ≤ R.cells) (hl : n + z ≤ R.slots) (hq : pc' = pc + 3)
    (K : ∀ (T' : State) (h' : Heap) (b : Addr), OSt Z EL a0 n0 h0 ws own bytes mx p l e R s m args below meth c (b :: sv) T' h' (k + 1) (n + z) → Keep h h' [] → h.size ≤ b → b < h'.size → Exa Z h' b C → (∀ {O nm d : String} {ty : FieldType}, Laid Z a0 C O nm d → parseFieldDescriptor d = some ty → Fld Z h' b O nm d (defaultValue ty)) → OGo p.tables e below P T' (mkF m pc' Ls (.ref b :: st))) : OGo p.tables e below P T (mkF m pc Ls st) := by
  subst hq
  obtain ⟨hx, hby, hml, eT, hlk, vm0, locs, Y, I⟩ := X
  obtain ⟨T', h', Y', e', E, A, D, -, stp⟩ := newO Y hx (show Z.Warmed39 (s.setVm vm0).vm from I.2.2.2.2.1) (show (s.setVm vm0).vm.findClass own = _ from I.2.2.2.2.2.1) w wi wz eT (g := mkF m pc Ls st) rfl (hb hby hd) hc hl
  exact og stp (K T' h' h.size ⟨hx, hby, hml, e', hlk, vm0, locs, Y', I.new E (Nat.le_refl _) A.lt⟩ ((Keep.refl _ _).ext E) (Nat.le_refl _) A.lt A D)
theorem own_arr (X : OSt Z EL a0 n0 h0 ws own bytes mx p l e R s m args below meth c sv T h k n) (pc' : Nat) {aty : ArrayType} {z : Int32} (hd : decode bytes pc = .ok (.newarray aty, 2)) (w : (Cond.arrayClass (newarray.typeOf aty)).before a0 Z = true) (hz : ¬ z < 0) {cap : Nat} (hcap : z.toNatClampNeg = cap) (hbig : cap * 8 ≤ 536870912) (hc : k + 1 ≤ R.cells) (hl : n + cap ≤ R.slots) (hq : pc' = pc + 2)
    (K : ∀ (T' : State) (h' : Heap) (b : Addr) (kb : ClassId), OSt Z EL a0 n0 h0 ws own bytes mx p l e R s m args below meth c (b :: sv) T' h' (k + 1) (n + cap) → Keep h h' [] → h.size ≤ b → b < h'.size → Arv Z h' b kb (newarray.typeOf aty) z (List.replicate cap (defaultValue (newarray.typeOf aty))) (defaultValue (newarray.typeOf aty)) → OGo p.tables e below P T' (mkF m pc' Ls (.ref b :: st))) : OGo p.tables e below P T (mkF m pc Ls (.int z :: st)) := by
  subst hq
  obtain ⟨hx, hby, hml, eT, hlk, vm0, locs, Y, I⟩ := X
  obtain ⟨T', h', kb, Y', e', E, A, stp⟩ := newP Y hx (show Z.Warmed39 (s.setVm vm0).vm from I.2.2.2.2.1) w eT (g := mkF m pc Ls (.int z :: st)) rfl (hb hby hd) rfl hz (cap := cap) (Nat.le_of_eq hcap) hbig hc hl
  have V := (Arv.new A hz).pad (pad_rep [] (defaultValue (newarray.typeOf aty)) cap)
  rw [List.nil_append] at V
  exact og stp (K T' h' h.size kb ⟨hx, hby, hml, e', hlk, vm0, locs, Y', I.new E (Nat.le_refl _) A.lt⟩ ((Keep.refl _ _).ext E) (Nat.le_refl _) A.lt V)
theorem own_anew (X : OSt Z EL a0 n0 h0 ws own bytes mx p l e R s m args below meth c sv T h k n) (pc' : Nat) {C : String} {index : Nat} {z : Int32} (hd : decode bytes pc = .ok (.anewarray index, 3)) (w : (Cond.classLink own index C).before a0 Z = true) (w2 : (Cond.arrayOver (.object C)).before a0 Z = true) (hz : ¬ z < 0) {cap : Nat} (hcap : z.toNatClampNeg = cap) (hbig : cap * 8 ≤ 536870912) (hc : k + 1 ≤ R.cells) (hl : n + cap ≤ R.slots) (hq : pc' = pc + 3)
    (K : ∀ (T' : State) (h' : Heap) (b : Addr) (kb : ClassId), OSt Z EL a0 n0 h0 ws own bytes mx p l e R s m args below meth c (b :: sv) T' h' (k + 1) (n + cap) → Keep h h' [] → h.size ≤ b → b < h'.size → Arv Z h' b kb (.object C) z (List.replicate cap .null) .null → Ovr Z kb C → OGo p.tables e below P T' (mkF m pc' Ls (.ref b :: st))) : OGo p.tables e below P T (mkF m pc Ls (.int z :: st)) := by
  subst hq
  obtain ⟨hx, hby, hml, eT, hlk, vm0, locs, Y, I⟩ := X
  obtain ⟨T', h', kb, Y', e', E, A, O, stp⟩ := newR Y hx (show Z.Warmed39 (s.setVm vm0).vm from I.2.2.2.2.1) (show (s.setVm vm0).vm.findClass own = _ from I.2.2.2.2.2.1) w w2 eT (g := mkF m pc Ls (.int z :: st)) rfl (hb hby hd) rfl hz (cap := cap) (Nat.le_of_eq hcap) hbig hc hl
  have V := (Arv.new A hz).pad (pad_rep [] (defaultValue (.object C)) cap)
  rw [List.nil_append] at V
  exact og stp (K T' h' h.size kb ⟨hx, hby, hml, e', hlk, vm0, locs, Y', I.new E (Nat.le_refl _) A.lt⟩ ((Keep.refl _ _).ext E) (Nat.le_refl _) A.lt V O)
theorem own_put (X : OSt Z EL a0 n0 h0 ws own bytes mx p l e R s m args below meth c sv T h k n) (pc' : Nat) {R0 O nm d host C : String} {index kk : Nat} {ty : FieldType} {a : Addr} {v old : Value} (hd : decode bytes pc = .ok (.putfield index, 3)) (w : (Cond.fieldLink own index R0 nm d).before a0 Z = true ∨ (Cond.fieldLinkNest own index R0 nm d host).before a0 Z = true) (via : Via Z R0 O nm d)
    (F : Fld Z h a O nm d old) (E : Exa Z h a C) (L : (Cond.lays C O nm d).before a0 Z = true ∨ ((Cond.laysFinal C O nm d).before a0 Z = true ∧ own = O ∧ meth.name = "<init>")) (wi : (Cond.instantiable C kk).before a0 Z = true) (hty : parseFieldDescriptor d = some ty) (hn : narrow ty v = v) (hf : fits ty v = true) (ha : a ∈ sv) (hq : pc' = pc + 3)
    (K : ∀ (T' : State) (h' : Heap), OSt Z EL a0 n0 h0 ws own bytes mx p l e R s m args below meth c sv T' h' k n → Wr h h' a (RoadKit.slotOf Z O nm d) v → Keep h h' [a] → Fld Z h' a O nm d v → OGo p.tables e below P T' (mkF m pc' Ls st)) : OGo p.tables e below P T (mkF m pc Ls (v :: .ref a :: st)) := by
  subst hq
  obtain ⟨hx, hby, hml, eT, hlk, vm0, locs, Y, I⟩ := X
  obtain ⟨T', h', Y', e', W, stp⟩ := putF Y hx (show Z.Warmed39 (s.setVm vm0).vm from I.2.2.2.2.1) (show (s.setVm vm0).vm.findClass own = _ from I.2.2.2.2.2.1) w via eT F E L wi hty hn hf (g := mkF m pc Ls (v :: .ref a :: st)) rfl rfl (hb hby hd)
  exact og stp (K T' h' ⟨hx, hby, hml, e', hlk, vm0, _, Y', I.wr ha W⟩ W (Keep.of_wr W) (F.same W))
theorem own_get (X : OSt Z EL a0 n0 h0 ws own bytes mx p l e R s m args below meth c sv T h k n) (pc' : Nat) {R0 O nm d host : String} {index : Nat} {a : Addr} {v : Value} (hd : decode bytes pc = .ok (.getfield index, 3)) (w : (Cond.fieldLink own index R0 nm d).before a0 Z = true ∨ (Cond.fieldLinkNest own index R0 nm d host).before a0 Z = true) (via : Via Z R0 O nm d) (F : Fld Z h a O nm d v) (hq : pc' = pc + 3)
    (K : ∀ (T' : State), OSt Z EL a0 n0 h0 ws own bytes mx p l e R s m args below meth c sv T' h k n → OGo p.tables e below P T' (mkF m pc' Ls (v :: st))) : OGo p.tables e below P T (mkF m pc Ls (.ref a :: st)) := by
  subst hq
  obtain ⟨hx, hby, hml, eT, hlk, vm0, locs, Y, I⟩ := X
  obtain ⟨T', Y', e', stp⟩ := getF Y hx (show Z.Warmed39 (s.setVm vm0).vm from I.2.2.2.2.1) (show (s.setVm vm0).vm.findClass own = _ from I.2.2.2.2.2.1) w via eT F (g := mkF m pc Ls (.ref a :: st)) rfl rfl (hb hby hd)
  exact og stp (K T' ⟨hx, hby, hml, e', hlk, vm0, _, Y', I⟩)
theorem own_getS (X : OSt Z EL a0 n0 h0 ws own bytes mx p l e R s m args below meth c sv T h k n) (pc' : Nat) {R0 O nm d host : String} {index : Nat} {v : Value} (hd : decode bytes pc = .ok (.getstatic index, 3)) (w : (Cond.fieldLink own index R0 nm d).before a0 Z = true ∨ (Cond.fieldLinkNest own index R0 nm d host).before a0 Z = true) (via : Via Z R0 O nm d) (F : Sta Z Z.heap O nm d v) (hq : pc' = pc + 3)
    (K : ∀ (T' : State), OSt Z EL a0 n0 h0 ws own bytes mx p l e R s m args below meth c sv T' h k n → OGo p.tables e below P T' (mkF m pc' Ls (v :: st))) : OGo p.tables e below P T (mkF m pc Ls st) := by
  subst hq
  have O1 := X.old
  obtain ⟨hx, hby, hml, eT, hlk, vm0, locs, Y, I⟩ := X
  obtain ⟨T', Y', e', stp⟩ := getS2 Y hx (show Z.Warmed39 (s.setVm vm0).vm from I.2.2.2.2.1) (show (s.setVm vm0).vm.findClass own = _ from I.2.2.2.2.2.1) w via eT (F.ext O1.2) (g := mkF m pc Ls st) rfl (hb hby hd)
  exact og stp (K T' ⟨hx, hby, hml, e', hlk, vm0, _, Y', I⟩)
theorem own_cast (X : OSt Z EL a0 n0 h0 ws own bytes mx p l e R s m args below meth c sv T h k n) (pc' : Nat) {C : String} {index : Nat} {a : Addr} (hd : decode bytes pc = .ok (.checkcast index, 3)) (w : (Cond.classLink own index C).before a0 Z = true) (F : Ins Z h a C true) (hq : pc' = pc + 3)
    (K : ∀ (T' : State), OSt Z EL a0 n0 h0 ws own bytes mx p l e R s m args below meth c sv T' h k n → OGo p.tables e below P T' (mkF m pc' Ls (.ref a :: st))) : OGo p.tables e below P T (mkF m pc Ls (.ref a :: st)) := by
  subst hq
  obtain ⟨hx, hby, hml, eT, hlk, vm0, locs, Y, I⟩ := X
  obtain ⟨T', Y', e', stp⟩ := castY Y hx (show Z.Warmed39 (s.setVm vm0).vm from I.2.2.2.2.1) (show (s.setVm vm0).vm.findClass own = _ from I.2.2.2.2.2.1) w eT F (g := mkF m pc Ls (.ref a :: st)) rfl rfl (hb hby hd)
  exact og stp (K T' ⟨hx, hby, hml, e', hlk, vm0, _, Y', I⟩)
theorem own_instY (X : OSt Z EL a0 n0 h0 ws own bytes mx p l e R s m args below meth c sv T h k n) (pc' : Nat) {C : String} {index : Nat} {a : Addr} (hd : decode bytes pc = .ok (.instanceof index, 3)) (w : (Cond.classLink own index C).before a0 Z = true) (F : Ins Z h a C true) (hq : pc' = pc + 3)
    (K : ∀ (T' : State), OSt Z EL a0 n0 h0 ws own bytes mx p l e R s m args below meth c sv T' h k n → OGo p.tables e below P T' (mkF m pc' Ls (.int 1 :: st))) : OGo p.tables e below P T (mkF m pc Ls (.ref a :: st)) := by
  subst hq
  obtain ⟨hx, hby, hml, eT, hlk, vm0, locs, Y, I⟩ := X
  obtain ⟨T', Y', e', stp⟩ := instY Y hx (show Z.Warmed39 (s.setVm vm0).vm from I.2.2.2.2.1) (show (s.setVm vm0).vm.findClass own = _ from I.2.2.2.2.2.1) w eT F (g := mkF m pc Ls (.ref a :: st)) rfl rfl (hb hby hd)
  exact og stp (K T' ⟨hx, hby, hml, e', hlk, vm0, _, Y', I⟩)
theorem own_instN (X : OSt Z EL a0 n0 h0 ws own bytes mx p l e R s m args below meth c sv T h k n) (pc' : Nat) {C C' : String} {index : Nat} {a : Addr} (hd : decode bytes pc = .ok (.instanceof index, 3)) (w : (Cond.classLink own index C).before a0 Z = true) (F : Ins Z h0 a C false) (E : Exa Z h0 a C') (hq : pc' = pc + 3)
    (K : ∀ (T' : State), OSt Z EL a0 n0 h0 ws own bytes mx p l e R s m args below meth c sv T' h k n → OGo p.tables e below P T' (mkF m pc' Ls (.int 0 :: st))) : OGo p.tables e below P T (mkF m pc Ls (.ref a :: st)) := by
  subst hq
  obtain ⟨hx, hby, hml, eT, hlk, vm0, locs, Y, I⟩ := X
  have e0 : (s.setVm vm0).heap = h0 := I.1
  obtain ⟨T', Y', e', stp⟩ := instN Y hx (show Z.Warmed39 (s.setVm vm0).vm from I.2.2.2.2.1) (show (s.setVm vm0).vm.findClass own = _ from I.2.2.2.2.2.1) w eT (by rw [e0]; exact F) (by rw [e0]; exact E) (g := mkF m pc Ls (.ref a :: st)) rfl rfl (hb hby hd)
  exact og stp (K T' ⟨hx, hby, hml, e', hlk, vm0, _, Y', I⟩)
theorem own_obj0 (X : OSt Z EL a0 n0 h0 ws own bytes mx p l e R s m args below meth c sv T h k n) (pc' : Nat) {index : Nat} {a : Addr} (hd : decode bytes pc = .ok (.invokespecial index, 3)) (w1 : (Cond.methodLink own index Lib.objectInit).before a0 Z = true) (w2 : (Cond.instanceMethod Lib.objectInit).before a0 Z = true) (w3 : (Cond.code Lib.objectInit ⟨#[0xb1]⟩ 1 none).before a0 Z = true) (hsz : Ls.size = mx) {W : Nat} (hW : (st.map fun v => v.category).sum = W) (hf : 1 ≤ R.frames) (hl : W + 12 ≤ R.locals) (hq : pc' = pc + 3)
    (K : ∀ (T' : State), OSt Z EL a0 n0 h0 ws own bytes mx p l e R s m args below meth c sv T' h k n → OGo p.tables e below P T' (mkF m pc' Ls st)) : OGo p.tables e below P T (mkF m pc Ls (.ref a :: st)) := by
  subst hq
  obtain ⟨hx, hby, hml, eT, hlk, vm0, locs, Y, I⟩ := X
  obtain ⟨T', Y', e', stp⟩ := initO Y hx (show Z.Warmed39 (s.setVm vm0).vm from I.2.2.2.2.1) (show (s.setVm vm0).vm.findClass own = _ from I.2.2.2.2.2.1) w1 w2 w3 eT (g := mkF m pc Ls (.ref a :: st)) rfl (by rw [hml]; exact hsz) rfl (hb hby hd) hf (W := W) (by show 2 * 0 + _ ≤ _; rw [hW]; omega) hl
  exact og stp (K T' ⟨hx, hby, hml, e', hlk, vm0, _, Y', I⟩)
theorem own_inb {cl : Cell} {z j : Int32} (S : cl.slots.size = z.toNatClampNeg) (h1 : ¬ j < 0) (h2 : j < z) : ¬ (j < 0 ∨ cl.slots.size ≤ j.toNatClampNeg) := inb_of S ⟨h1, h2⟩
theorem own_stC (X : OSt Z EL a0 n0 h0 ws own bytes mx p l e R s m args below meth c sv T h k n) (pc' : Nat) {a : Addr} {kb : ClassId} {z j x x' : Int32} {vs : List Value} {dv : Value} (hd : decode bytes pc = .ok (.castore, 1)) (A : Arv Z h a kb .char z vs dv) (hx' : nar .char x = x') (h1 : ¬ j < 0) (h2 : j < z) {i : Nat} (hi : j.toNatClampNeg = i) (hl : i < vs.length) (ha : a ∈ sv) (hq : pc' = pc + 1)
    (K : ∀ (T' : State) (h' : Heap), OSt Z EL a0 n0 h0 ws own bytes mx p l e R s m args below meth c sv T' h' k n → Wr h h' a j.toNatClampNeg (.int x') → Keep h h' [a] → Arv Z h' a kb .char z (vs.set i (.int x')) dv → OGo p.tables e below P T' (mkF m pc' Ls st)) : OGo p.tables e below P T (mkF m pc Ls (.int x :: .int j :: .ref a :: st)) := by
  subst hq hx'
  obtain ⟨hx, hby, hml, eT, hlk, vm0, locs, Y, I⟩ := X
  obtain ⟨cl, Ar, q, S, N, Hs, G⟩ := A
  obtain ⟨T', h', Y', e', W, stp⟩ := stC Y hx (show Z.Warmed39 (s.setVm vm0).vm from I.2.2.2.2.1) eT Ar (j := j) (x := x) (own_inb S h1 h2) (g := mkF m pc Ls (.int x :: .int j :: .ref a :: st)) rfl rfl (hb hby hd)
  exact og stp (K T' h' ⟨hx, hby, hml, e', hlk, vm0, _, Y', I.wr ha W⟩ W (Keep.of_wr W) (Arv.set Ar q S N Hs G (fits_nar_char _) W i hi hl))
theorem own_stB (X : OSt Z EL a0 n0 h0 ws own bytes mx p l e R s m args below meth c sv T h k n) (pc' : Nat) {a : Addr} {kb : ClassId} {z j x x' : Int32} {vs : List Value} {dv : Value} (hd : decode bytes pc = .ok (.bastore, 1)) (A : Arv Z h a kb .byte z vs dv) (hx' : x.toInt8.toInt32 = x') (h1 : ¬ j < 0) (h2 : j < z) {i : Nat} (hi : j.toNatClampNeg = i) (hl : i < vs.length) (ha : a ∈ sv) (hq : pc' = pc + 1)
    (K : ∀ (T' : State) (h' : Heap), OSt Z EL a0 n0 h0 ws own bytes mx p l e R s m args below meth c sv T' h' k n → Wr h h' a j.toNatClampNeg (.int x') → Keep h h' [a] → Arv Z h' a kb .byte z (vs.set i (.int x')) dv → OGo p.tables e below P T' (mkF m pc' Ls st)) : OGo p.tables e below P T (mkF m pc Ls (.int x :: .int j :: .ref a :: st)) := by
  subst hq hx'
  obtain ⟨hx, hby, hml, eT, hlk, vm0, locs, Y, I⟩ := X
  obtain ⟨cl, Ar, q, S, N, Hs, G⟩ := A
  obtain ⟨T', h', Y', e', W, stp⟩ := stB Y hx (show Z.Warmed39 (s.setVm vm0).vm from I.2.2.2.2.1) eT Ar (j := j) (x := x) (own_inb S h1 h2) (g := mkF m pc Ls (.int x :: .int j :: .ref a :: st)) rfl rfl (hb hby hd)
  exact og stp (K T' h' ⟨hx, hby, hml, e', hlk, vm0, _, Y', I.wr ha W⟩ W (Keep.of_wr W) (Arv.set Ar q S N Hs G (fits_nar_byte _) W i hi hl))
theorem own_stR (X : OSt Z EL a0 n0 h0 ws own bytes mx p l e R s m args below meth c sv T h k n) (pc' : Nat) {a : Addr} {kb : ClassId} {ty : FieldType} {z j : Int32} {v : Value} {vs : List Value} {dv : Value} (hd : decode bytes pc = .ok (.aastore, 1)) (A : Arv Z h a kb ty z vs dv) (hty : ty.isReference = true) (hf : fits ty v = true) (F : Sto Z h a v) (h1 : ¬ j < 0) (h2 : j < z) {i : Nat} (hi : j.toNatClampNeg = i) (hl : i < vs.length) (ha : a ∈ sv) (hq : pc' = pc + 1)
    (K : ∀ (T' : State) (h' : Heap), OSt Z EL a0 n0 h0 ws own bytes mx p l e R s m args below meth c sv T' h' k n → Wr h h' a j.toNatClampNeg v → Keep h h' [a] → Arv Z h' a kb ty z (vs.set i v) dv → OGo p.tables e below P T' (mkF m pc' Ls st)) : OGo p.tables e below P T (mkF m pc Ls (v :: .int j :: .ref a :: st)) := by
  subst hq
  obtain ⟨hx, hby, hml, eT, hlk, vm0, locs, Y, I⟩ := X
  obtain ⟨cl, Ar, q, S, N, Hs, G⟩ := A
  obtain ⟨T', h', Y', e', W, stp⟩ := stR Y hx (show Z.Warmed39 (s.setVm vm0).vm from I.2.2.2.2.1) eT Ar (j := j) (v := v) (own_inb S h1 h2) hty F (g := mkF m pc Ls (v :: .int j :: .ref a :: st)) rfl rfl (hb hby hd)
  exact og stp (K T' h' ⟨hx, hby, hml, e', hlk, vm0, _, Y', I.wr ha W⟩ W (Keep.of_wr W) (Arv.set Ar q S N Hs G hf W i hi hl))
theorem own_len (X : OSt Z EL a0 n0 h0 ws own bytes mx p l e R s m args below meth c sv T h k n) (pc' : Nat) {a : Addr} {kb : ClassId} {ty : FieldType} {z : Int32} {vs : List Value} {dv : Value} (hd : decode bytes pc = .ok (.arraylength, 1)) (A : Arv Z h a kb ty z vs dv) (hq : pc' = pc + 1) (K : OGo p.tables e below P T (mkF m pc' Ls (.int z :: st))) : OGo p.tables e below P T (mkF m pc Ls (.ref a :: st)) := by
  subst hq
  obtain ⟨hx, hby, hml, eT, hlk, vm0, locs, Y, I⟩ := X
  obtain ⟨cl, Ar, q, S, N, Hs, G⟩ := A
  refine og (fun _ r => Y.arraylength hx (by rw [eT]; exact Ar.1) (State.isArrayOf_alike (show Z.Warmed39 (s.setVm vm0).vm from I.2.2.2.2.1).alike Ar.2.1) (g := mkF m pc Ls (.ref a :: st)) rfl rfl (hb hby hd) _ r) ?_
  rw [len_of S N]; exact K
theorem own_ldC (X : OSt Z EL a0 n0 h0 ws own bytes mx p l e R s m args below meth c sv T h k n) (pc' : Nat) {a : Addr} {kb : ClassId} {z j : Int32} {v : Value} {vs : List Value} {dv : Value} (hd : decode bytes pc = .ok (.caload, 1)) (A : Arv Z h a kb .char z vs dv) (h1 : ¬ j < 0) (h2 : j < z) (hv : vs.getD j.toNatClampNeg dv = v) (hq : pc' = pc + 1) (K : OGo p.tables e below P T (mkF m pc' Ls (v :: st))) : OGo p.tables e below P T (mkF m pc Ls (.int j :: .ref a :: st)) := by
  subst hq
  obtain ⟨hx, hby, hml, eT, hlk, vm0, locs, Y, I⟩ := X
  obtain ⟨cl, Ar, q, S, N, Hs, G⟩ := A
  exact og (fun _ r => Y.caload hx (j := j) (v := v) (by rw [eT]; exact Ar.1) (State.isArrayOf_alike (show Z.Warmed39 (s.setVm vm0).vm from I.2.2.2.2.1).alike Ar.2.1) Ar.2.2 (own_inb S h1 h2) (Hs.at (own_inb S h1 h2) hv) (g := mkF m pc Ls (.int j :: .ref a :: st)) rfl rfl (hb hby hd) _ r) K
theorem own_ldB (X : OSt Z EL a0 n0 h0 ws own bytes mx p l e R s m args below meth c sv T h k n) (pc' : Nat) {a : Addr} {kb : ClassId} {z j : Int32} {v : Value} {vs : List Value} {dv : Value} (hd : decode bytes pc = .ok (.baload, 1)) (A : Arv Z h a kb .byte z vs dv) (h1 : ¬ j < 0) (h2 : j < z) (hv : vs.getD j.toNatClampNeg dv = v) (hq : pc' = pc + 1) (K : OGo p.tables e below P T (mkF m pc' Ls (v :: st))) : OGo p.tables e below P T (mkF m pc Ls (.int j :: .ref a :: st)) := by
  subst hq
  obtain ⟨hx, hby, hml, eT, hlk, vm0, locs, Y, I⟩ := X
  obtain ⟨cl, Ar, q, S, N, Hs, G⟩ := A
  exact og (fun _ r => Y.baloadBytes hx (j := j) (v := v) (by rw [eT]; exact Ar.1) (State.isArrayOf_alike (show Z.Warmed39 (s.setVm vm0).vm from I.2.2.2.2.1).alike Ar.2.1) Ar.2.2 (own_inb S h1 h2) (Hs.at (own_inb S h1 h2) hv) (g := mkF m pc Ls (.int j :: .ref a :: st)) rfl rfl (hb hby hd) _ r) K
theorem own_ldR (X : OSt Z EL a0 n0 h0 ws own bytes mx p l e R s m args below meth c sv T h k n) (pc' : Nat) {a : Addr} {kb : ClassId} {ty : FieldType} {z j : Int32} {v : Value} {vs : List Value} {dv : Value} (hd : decode bytes pc = .ok (.aaload, 1)) (A : Arv Z h a kb ty z vs dv) (hty : ty.isReference = true) (h1 : ¬ j < 0) (h2 : j < z) (hv : vs.getD j.toNatClampNeg dv = v) (hq : pc' = pc + 1) (K : OGo p.tables e below P T (mkF m pc' Ls (v :: st))) : OGo p.tables e below P T (mkF m pc Ls (.int j :: .ref a :: st)) := by
  subst hq
  obtain ⟨hx, hby, hml, eT, hlk, vm0, locs, Y, I⟩ := X
  obtain ⟨cl, Ar, q, S, N, Hs, G⟩ := A
  exact og (fun _ r => Y.aaload hx (j := j) (v := v) (by rw [eT]; exact Ar.1) (State.isArrayOf_alike (show Z.Warmed39 (s.setVm vm0).vm from I.2.2.2.2.1).alike Ar.2.1) hty Ar.2.2 (own_inb S h1 h2) (Hs.at (own_inb S h1 h2) hv) (g := mkF m pc Ls (.int j :: .ref a :: st)) rfl rfl (hb hby hd) _ r) K
theorem own_ldcI (X : OSt Z EL a0 n0 h0 ws own bytes mx p l e R s m args below meth c sv T h k n) (pc' : Nat) {index : Nat} {v : Int32} (hd : decode bytes pc = .ok (.ldc index, 2)) (w : (Cond.constant own index v).before a0 Z = true) (hq : pc' = pc + 2) (K : OGo p.tables e below P T (mkF m pc' Ls (.int v :: st))) : OGo p.tables e below P T (mkF m pc Ls st) := by
  subst hq
  obtain ⟨hx, hby, hml, eT, hlk, vm0, locs, Y, I⟩ := X
  exact og (fun _ r => Y.ldcInt hx (show (s.setVm vm0).vm.findClass own = _ from I.2.2.2.2.2.1) (mvT (show Z.Warmed39 (s.setVm vm0).vm from I.2.2.2.2.1) w) (g := mkF m pc Ls st) rfl (hb hby hd) _ r) K
theorem own_instNull (X : OSt Z EL a0 n0 h0 ws own bytes mx p l e R s m args below meth c sv T h k n) (pc' : Nat) {index : Nat} (hd : decode bytes pc = .ok (.instanceof index, 3)) (hq : pc' = pc + 3) (K : OGo p.tables e below P T (mkF m pc' Ls (.int 0 :: st))) : OGo p.tables e below P T (mkF m pc Ls (.null :: st)) := by
  subst hq
  obtain ⟨hx, hby, hml, eT, hlk, vm0, locs, Y, I⟩ := X
  exact og (fun _ r => Y.instanceofNull hx (g := mkF m pc Ls (.null :: st)) rfl rfl (hb hby hd) _ r) K
theorem own_castNull (X : OSt Z EL a0 n0 h0 ws own bytes mx p l e R s m args below meth c sv T h k n) (pc' : Nat) {index : Nat} (hd : decode bytes pc = .ok (.checkcast index, 3)) (hq : pc' = pc + 3) (K : OGo p.tables e below P T (mkF m pc' Ls (.null :: st))) : OGo p.tables e below P T (mkF m pc Ls (.null :: st)) := by
  subst hq
  obtain ⟨hx, hby, hml, eT, hlk, vm0, locs, Y, I⟩ := X
  exact og (fun _ r => Y.checkcastNull hx (g := mkF m pc Ls (.null :: st)) rfl rfl (hb hby hd) _ r) K
theorem own_instNo (X : OSt Z EL a0 n0 h0 ws own bytes mx p l e R s m args below meth c sv T h k n) (pc' : Nat) {C C' : String} {index : Nat} {a : Addr} (hd : decode bytes pc = .ok (.instanceof index, 3)) (w : (Cond.classLink own index C).before a0 Z = true) (E : Exa Z h a C') (F : ∃ c t, Z.vm.findClass C' = some c ∧ Z.vm.findClass C = some t ∧ Z.vm.assignable c t = false) (hq : pc' = pc + 3)
    (K : ∀ (T' : State), OSt Z EL a0 n0 h0 ws own bytes mx p l e R s m args below meth c sv T' h k n → OGo p.tables e below P T' (mkF m pc' Ls (.int 0 :: st))) : OGo p.tables e below P T (mkF m pc Ls (.ref a :: st)) := by
  subst hq
  obtain ⟨hx, hby, hml, eT, hlk, vm0, locs, Y, I⟩ := X
  obtain ⟨T', Y', e', stp⟩ := instNo Y hx (show Z.Warmed39 (s.setVm vm0).vm from I.2.2.2.2.1) (show (s.setVm vm0).vm.findClass own = _ from I.2.2.2.2.2.1) w eT E F (g := mkF m pc Ls (.ref a :: st)) rfl rfl (hb hby hd)
  exact og stp (K T' ⟨hx, hby, hml, e', hlk, vm0, _, Y', I⟩)
theorem own_nsRoot {O C : String} {kk : Nat} (w : (Cond.noSuperclass O).before a0 Z = true) (wk : (Cond.instantiable C kk).before a0 Z = true) (hn : O ≠ C) : NS Z O C := by
  obtain ⟨c, k, h1, h2, h3, -, -⟩ := Cond.noSuperclass_spec w
  obtain ⟨t, k2, g1, -⟩ := Cond.instantiable_spec wk
  have ne := ids_ne h1 g1 hn
  refine ⟨c, t, h1, g1, fun fuel => ?_⟩
  cases fuel with
  | zero => rfl
  | succ f => simp [Vm.isSubclassAux, ne, h2, h3]
theorem own_nsNo {C S K' : String} {kk : Nat} (w : (Cond.superclass C S).before a0 Z = true) (wk : (Cond.instantiable K' kk).before a0 Z = true) (N : NS Z C K') (hn : C ≠ K') : ∃ c t, Z.vm.findClass C = some c ∧ Z.vm.findClass K' = some t ∧ Z.vm.assignable c t = false := by
  obtain ⟨c, t, h0, g0, n3⟩ := N
  obtain ⟨p, k, kp, h1, h2, h3, h4, h5, -, h7⟩ := Cond.superclass_spec h0 w
  obtain ⟨t', k2, g1, g2, g3, g4, -⟩ := Cond.instantiable_spec wk
  cases g0.symm.trans g1
  have ne := ids_ne h0 g0 hn
  have g5 : k2.isInterface = false := by
    cases hi : k2.isInterface with
    | false => rfl
    | true => rw [hi] at g4; simp at g4
  refine ⟨c, t, h0, g0, ?_⟩
  show Z.vm.assignableAux (255 + 1) c t = false
  simp [Vm.assignableAux, ne, h2, g2, h5, g3, g5, Vm.isSubclass, n3]
def OMet (l : Launch) (Z : State) (EL : List (String × Nat)) (n0 : Nat) (y : MethodName) (wc : List Jvm.Cond) (rm : Room) (as' : Array Value) (h0 : Heap) (ws : List Addr) (Q : Option Value → Heap → Prop) : Prop :=
  MetFree l y (head1 wc rm) (fun a U => a = as' ∧ Z.Warmed39 U.vm ∧ U.heap = h0 ∧ CHv Z EL U.vm h0 ∧ ∀ x ∈ ws, Safe Z EL U.vm h0 x) (fun _ _ _ _ _ => True) (fun _ U o U' => OEnd Z EL n0 h0 ws U Q rm.cells rm.slots o U')
theorem own_enter {y : MethodName} {ret : Option FieldType} {wc : List Jvm.Cond} {rm : Room} {as' : Array Value} {Q : Option Value → Heap → Prop} (Ls : Array Slot) (hn : plainFor y = true) (ef : ∀ m, entryFrame m as' mx = mkF m 0 Ls []) (hEL : EW Z a0 EL) (O : Old Z n0 h0) (hlt : ∀ x ∈ ws, n0 ≤ x ∧ x < h0.size)
    (K : ∀ (p : Program) (e : Env) (s : State) (m : MethodId) (below : List Frame) (meth : Method) (c : Code) (T : State), OSt Z EL a0 n0 h0 ws y.cls bytes mx p l e rm s m as' below meth c ws T h0 0 0 → meth.name = y.name → meth.sig.returnType = ret → OGo p.tables e below (OEnd Z EL n0 h0 ws s Q rm.cells rm.slots) T (mkF m 0 Ls [])) :
    OMet l Z EL n0 y (Jvm.Cond.code y bytes mx ret :: wc) rm as' h0 ws Q := by
  refine MetFree.of_bodySF hn hisR ?_
  intro p e s m args below meth c s₁ Bd hml hP _
  obtain ⟨rfl, hZ, hh, hC, hS⟩ := hP
  have Y : Stand p l e rm (s.setVm s.vm) m args below meth c s₁ [] 0 0 := Stand.of_body Bd
  have hown := findClass_of_methodNamed Bd.named
  have e0 : s₁.heap = h0 := by rw [← hh, Bd.state]; rfl
  obtain ⟨t, o, g1, g2⟩ := K p e s m below meth c s₁ ⟨Bd.exec, Bd.bytes, hml, e0, Bd.notSynchronized, s.vm, [], Y, hh, O, Keep.refl _ _, ⟨_, (State.WarmedH.refl s).since _, Nat.le_refl _⟩, hZ, hown, hEL, by rw [hh]; exact CHr.refl hC, fun _ => rfl, Fr.nil _, fun x hx => ⟨(hlt x hx).1, (hlt x hx).2, Or.inl hx, hS x hx⟩⟩ (name_of_methodNamed Bd.named Bd.method).1 Bd.returns
  exact ⟨t, o, castTop (ef m) g1, g2⟩
theorem own_leave (X : OSt Z EL a0 n0 h0 ws own bytes mx p l e R s m args below meth c sv T h k n) {v : Option Value} {Q : Option Value → Heap → Prop} {k' n' : Nat} (hv : meth.sig.returnType = none → v = none) (hk : k ≤ k') (hn : n ≤ n') (hQ : Q v h) :
    ∃ fs, (∀ (f : JFrame) (acts : List Action), f.method = m → f.locked = none → f.entered = [] → (doReturn e (T.setTop f) acts v).1 = T.setFrames fs) ∧ (T.setFrames fs).status = .running ∧ Ended (T.setFrames fs) below (.returned v) ∧ OEnd Z EL n0 h0 ws s Q k' n' (.returned v) (T.setFrames fs) := by
  obtain ⟨hx, hby, hml, eT, hlk, vm0, locs, Y, b1, b2, b3, ⟨k0, b4, b4'⟩, b5, b6, b7, b8, b9, b10, b11⟩ := X.more hk hn
  obtain ⟨fs, h1, h2, h3, hW, hs⟩ := Y.leave hv hlk
  have C := CHv.at Y b5 b7 b8.1
  obtain ⟨q1, q2, q3⟩ := b4.ended (U := T.setFrames fs) hW (by show k0 ≤ T.heap.size; rw [eT]; exact b4') hs
  refine ⟨fs, h1, h2, h3, v, locs, rfl, ⟨b10, by show Keep h0 T.heap ws; rw [eT]; exact b3, by show Q v T.heap; rw [eT]; exact hQ⟩, by show CHr Z EL s.vm s.heap T.vm T.heap; rw [eT]; exact b8.trans C, ⟨⟨v, rfl⟩, q1, q2, q3⟩, fun hnil => ?_⟩
  have := b9 hnil
  subst this
  exact ⟨⟨v, rfl⟩, hW, hs⟩
theorem own_retV (X : OSt Z EL a0 n0 h0 ws own bytes mx p l e R s m args below meth c sv T h k n) {Q : Option Value → Heap → Prop} {k' n' : Nat} (hd : decode bytes pc = .ok (.return_, 1)) (hret : meth.sig.returnType = none) (hk : k ≤ k') (hn : n ≤ n') (hQ : Q none h) : OGo p.tables e below (OEnd Z EL n0 h0 ws s Q k' n') T (mkF m pc Ls []) := by
  obtain ⟨fs, h1, h2, h3, h4⟩ := own_leave X (fun _ => rfl) hk hn hQ
  have X' := X
  obtain ⟨hx, hby, hml, eT, hlk, vm0, locs, Y, -⟩ := X'
  exact ⟨_, _, Y.returnOut hx hret (hb hby hd) h1, h2, h3, h4⟩
theorem own_ret (X : OSt Z EL a0 n0 h0 ws own bytes mx p l e R s m args below meth c sv T h k n) {Q : Option Value → Heap → Prop} {k' n' : Nat} {t : FieldType} {w : Value} {i : Instr} (hd : decode bytes pc = .ok (i, 1)) (hret : meth.sig.returnType = some t) (hnw : narrow t w = w)
    (hi : (i = .ireturn ∧ (t = .int ∨ t = .boolean ∨ t = .byte ∨ t = .char ∨ t = .short) ∧ ∃ z, w = .int z) ∨ (i = .lreturn ∧ t = .long ∧ ∃ z, w = .long z) ∨ (i = .dreturn ∧ t = .double ∧ ∃ z, w = .double z) ∨ (i = .freturn ∧ t = .float ∧ ∃ z, w = .float z) ∨ (i = .areturn ∧ t.isReference = true ∧ w.isRef = true))
    (hk : k ≤ k') (hn : n ≤ n') (hQ : Q (some w) h) : OGo p.tables e below (OEnd Z EL n0 h0 ws s Q k' n') T (mkF m pc Ls (w :: st)) := by
  obtain ⟨fs, h1, h2, h3, h4⟩ := own_leave X (fun q => by rw [hret] at q; cases q) hk hn hQ
  have X' := X
  obtain ⟨hx, hby, hml, eT, hlk, vm0, locs, Y, -⟩ := X'
  exact ⟨_, _, retOut Y hx hret hnw hi (hb hby hd) h1, h2, h3, h4⟩
theorem own_retI (X : OSt Z EL a0 n0 h0 ws own bytes mx p l e R s m args below meth c sv T h k n) {Q : Option Value → Heap → Prop} {k' n' : Nat} {z : Int32} (hd : decode bytes pc = .ok (.ireturn, 1)) (hret : meth.sig.returnType = some .int) (hk : k ≤ k') (hn : n ≤ n') (hQ : Q (some (.int z)) h) : OGo p.tables e below (OEnd Z EL n0 h0 ws s Q k' n') T (mkF m pc Ls (.int z :: st)) :=
  own_ret X hd hret rfl (Or.inl ⟨rfl, Or.inl rfl, z, rfl⟩) hk hn hQ
theorem own_retZ (X : OSt Z EL a0 n0 h0 ws own bytes mx p l e R s m args below meth c sv T h k n) {Q : Option Value → Heap → Prop} {k' n' : Nat} {z : Int32} (hd : decode bytes pc = .ok (.ireturn, 1)) (hret : meth.sig.returnType = some .boolean) (hz : narrow .boolean (.int z) = .int z) (hk : k ≤ k') (hn : n ≤ n') (hQ : Q (some (.int z)) h) : OGo p.tables e below (OEnd Z EL n0 h0 ws s Q k' n') T (mkF m pc Ls (.int z :: st)) :=
  own_ret X hd hret hz (Or.inl ⟨rfl, Or.inr (Or.inl rfl), z, rfl⟩) hk hn hQ
theorem own_retC (X : OSt Z EL a0 n0 h0 ws own bytes mx p l e R s m args below meth c sv T h k n) {Q : Option Value → Heap → Prop} {k' n' : Nat} {z : Int32} (hd : decode bytes pc = .ok (.ireturn, 1)) (hret : meth.sig.returnType = some .char) (hz : narrow .char (.int z) = .int z) (hk : k ≤ k') (hn : n ≤ n') (hQ : Q (some (.int z)) h) : OGo p.tables e below (OEnd Z EL n0 h0 ws s Q k' n') T (mkF m pc Ls (.int z :: st)) :=
  own_ret X hd hret hz (Or.inl ⟨rfl, Or.inr (Or.inr (Or.inr (Or.inl rfl))), z, rfl⟩) hk hn hQ
theorem own_retY (X : OSt Z EL a0 n0 h0 ws own bytes mx p l e R s m args below meth c sv T h k n) {Q : Option Value → Heap → Prop} {k' n' : Nat} {z : Int32} (hd : decode bytes pc = .ok (.ireturn, 1)) (hret : meth.sig.returnType = some .byte) (hz : narrow .byte (.int z) = .int z) (hk : k ≤ k') (hn : n ≤ n') (hQ : Q (some (.int z)) h) : OGo p.tables e below (OEnd Z EL n0 h0 ws s Q k' n') T (mkF m pc Ls (.int z :: st)) :=
  own_ret X hd hret hz (Or.inl ⟨rfl, Or.inr (Or.inr (Or.inl rfl)), z, rfl⟩) hk hn hQ
theorem own_retL (X : OSt Z EL a0 n0 h0 ws own bytes mx p l e R s m args below meth c sv T h k n) {Q : Option Value → Heap → Prop} {k' n' : Nat} {z : Int64} (hd : decode bytes pc = .ok (.lreturn, 1)) (hret : meth.sig.returnType = some .long) (hk : k ≤ k') (hn : n ≤ n') (hQ : Q (some (.long z)) h) : OGo p.tables e below (OEnd Z EL n0 h0 ws s Q k' n') T (mkF m pc Ls (.long z :: st)) :=
  own_ret X hd hret rfl (Or.inr (Or.inl ⟨rfl, rfl, z, rfl⟩)) hk hn hQ
theorem own_narR {t : FieldType} {w : Value} (ht : t.isReference = true) (hw : w.isRef = true) : narrow t w = w := by
  rcases ref_cases hw with rfl | ⟨a, rfl⟩ <;> cases t <;> first | rfl | cases ht
theorem own_retA (X : OSt Z EL a0 n0 h0 ws own bytes mx p l e R s m args below meth c sv T h k n) {Q : Option Value → Heap → Prop} {k' n' : Nat} {t : FieldType} {w : Value} (hd : decode bytes pc = .ok (.areturn, 1)) (hret : meth.sig.returnType = some t) (ht : t.isReference = true) (hw : w.isRef = true) (hk : k ≤ k') (hn : n ≤ n') (hQ : Q (some w) h) : OGo p.tables e below (OEnd Z EL n0 h0 ws s Q k' n') T (mkF m pc Ls (w :: st)) :=
  own_ret X hd hret (own_narR ht hw) (Or.inr (Or.inr (Or.inr (Or.inr ⟨rfl, ht, hw⟩)))) hk hn hQ
theorem own_payN {vm0 : Vm} {y : MethodName} {maxL : Nat} {ret : Option FieldType} {rm : Room} {len W : Nat} {as' : Array Value} {ws' : List Addr} {Q : Option Value → Heap → Prop} {bc : ByteArray} (hnil : EL = []) (hM : OMet l Z EL n0 y [Jvm.Cond.code y bc maxL ret] rm as' h ws' Q) (hZ : Z.Warmed39 vm0) (wc : (Cond.code y bc maxL ret).before a0 Z = true) (wz : (Cond.initialized y.cls).before a0 Z = true) (hf : rm.frames + 1 ≤ R.frames) (hl : W + (maxL + 11) + rm.locals ≤ R.locals) (hEL : EW Z a0 EL) (H : CHv Z EL vm0 h) (hS : ∀ x ∈ ws', x < h.size ∧ Safe Z EL vm0 h x) :
    Back l R p e below (s.setVm vm0) args y len W (fun A a => a = as' ∧ A.U.heap = h ∧ A.cells + rm.cells ≤ R.cells ∧ A.slots + rm.slots ≤ R.slots)
      (fun A _ v B => ∃ L, (Fr n0 L ∧ Keep h B.U.heap ws' ∧ Q v B.U.heap) ∧ B.locs = A.locs ++ L ∧ B.cells = A.cells + rm.cells ∧ B.slots = A.slots + rm.slots) :=
  Back.of_free (bytes := bc) (maxL := maxL) (ret := ret) (E := fun _ _ o t L k n => k = rm.cells ∧ n = rm.slots ∧ ∃ v, o = .returned v ∧ (Fr n0 L ∧ Keep h t.heap ws' ∧ Q v t.heap)) hM hf hl
    (fun m meth c A a Y hp => have hU : Z.Warmed39 A.U.vm := wtrans (s := s.setVm vm0) hZ Y.warmed
      ⟨by show (Cond.and _ .tt).before a A.U = true; rw [Cond.before_and, mv hU wc]; rfl, mv hU wc, mv hU wz, hp.2.2.1, hp.2.2.2⟩)
    (fun m meth c A a g mk Y hp => ⟨hp.1, wtrans (s := s.setVm vm0) hZ Y.warmed, hp.2.1, (CHv.at Y hZ hEL H).1, fun x hx => (CHv.at Y hZ hEL H).safe (hS x hx).1 (hS x hx).2⟩) (fun _ _ _ _ _ _ _ _ _ => trivial)
    (fun _ _ _ _ ⟨v, L, h1, h2, _, _, h3⟩ => ⟨L, _, _, h3 hnil, rfl, rfl, v, h1, h2⟩)
    (fun m meth c A a g mk v t L k n Y hp _ _ ⟨e1, e2, v', e3, e4⟩ => by cases e3; subst e1 e2; exact ⟨L, e4, rfl, rfl, rfl⟩)
theorem own_payW {vm0 : Vm} {y : MethodName} {maxL : Nat} {ret : Option FieldType} {rm : Room} {len W : Nat} {as' : Array Value} {ws' : List Addr} {Q : Option Value → Heap → Prop} {bc : ByteArray} (hM : OMet l Z EL n0 y [Jvm.Cond.code y bc maxL ret] rm as' h ws' Q) (hZ : Z.Warmed39 vm0) (wc : (Cond.code y bc maxL ret).before a0 Z = true) (wz : (Cond.initialized y.cls).before a0 Z = true) (hf : rm.frames + 1 ≤ R.frames) (hl : W + (maxL + 11) + rm.locals ≤ R.locals) (hEL : EW Z a0 EL) (H : CHv Z EL vm0 h) (hS : ∀ x ∈ ws', x < h.size ∧ Safe Z EL vm0 h x) :
    BackS l R p e below (s.setVm vm0) args y len W (fun A a => a = as' ∧ A.U.heap = h ∧ A.cells + rm.cells ≤ R.cells ∧ A.slots + rm.slots ≤ R.slots)
      (fun A _ v B => ∃ L, (Fr n0 L ∧ Keep h B.U.heap ws' ∧ Q v B.U.heap) ∧ B.locs = A.locs ++ L ∧ B.cells = A.cells + rm.cells ∧ B.slots = A.slots + rm.slots ∧ CHr Z EL vm0 h B.U.vm B.U.heap) :=
  BackS.of_freeW (bytes := bc) (maxL := maxL) (ret := ret) (E := fun _ first o t L k n => k = rm.cells ∧ n = rm.slots ∧ (∃ v, o = .returned v ∧ (Fr n0 L ∧ Keep h t.heap ws' ∧ Q v t.heap)) ∧ CHr Z EL first.vm first.heap t.vm t.heap) hM hf hl
    (fun m meth c A a Y hp => have hU : Z.Warmed39 A.U.vm := wtrans (s := s.setVm vm0) hZ Y.warmed
      ⟨by show (Cond.and _ .tt).before a A.U = true; rw [Cond.before_and, mv hU wc]; rfl, mv hU wc, mv hU wz, hp.2.2.1, hp.2.2.2⟩)
    (fun m meth c A a g mk Y hp => ⟨hp.1, wtrans (s := s.setVm vm0) hZ Y.warmed, hp.2.1, (CHv.at Y hZ hEL H).1, fun x hx => (CHv.at Y hZ hEL H).safe (hS x hx).1 (hS x hx).2⟩) (fun _ _ _ _ _ _ _ _ _ => trivial)
    (fun _ _ _ _ ⟨v, L, h1, h2, h3, h4, _⟩ => ⟨L, _, _, h4, rfl, rfl, ⟨v, h1, h2⟩, h3⟩)
    (fun m meth c A a g mk v t L k n Y hp _ _ ⟨e1, e2, ⟨v', e3, e4⟩, e5⟩ => by
      cases e3; subst e1 e2
      refine ⟨L, e4, rfl, rfl, rfl, (CHv.at Y hZ hEL H).trans ?_⟩
      rw [← hp.2.1]; exact e5)
theorem own_stat (X : OSt Z EL a0 n0 h0 ws own bytes mx p l e R s m args below meth c sv T h k n) (pc' : Nat) {y : MethodName} {index maxL W : Nat} {ret : Option FieldType} {rm : Room} {as' : Array Value} {ws' : List Addr} {Q : Option Value → Heap → Prop} {bc : ByteArray} {argsL rest : List Value} (hd : decode bytes pc = .ok (.invokestatic index, 3)) (hM : OMet l Z EL n0 y [Jvm.Cond.code y bc maxL ret] rm as' h ws' Q) (w1 : (Cond.methodLink own index y).before a0 Z = true) (w2 : (Cond.static y).before a0 Z = true) (wz : (Cond.initialized y.cls).before a0 Z = true) (wc : (Cond.code y bc maxL ret).before a0 Z = true) (hy : y.cls ≠ "java/lang/invoke/MethodHandle" ∧ y.cls ≠ "java/lang/invoke/VarHandle")
    (hlen : ∀ sig, parseMethodDescriptor y.desc = some sig → argsL.length = sig.parameters.length) (hst : st = argsL.reverse ++ rest) (has : argsL.toArray = as') (hsz : Ls.size = mx) (hW : (rest.map fun v => v.category).sum = W) (hf : rm.frames + 1 ≤ R.frames) (hl : W + (maxL + 11) + rm.locals ≤ R.locals) (hc : k + rm.cells ≤ R.cells) (hs : n + rm.slots ≤ R.slots) (hsv : ∀ x ∈ ws', x ∈ sv) (hq : pc' = pc + 3)
    (K : ∀ (T' : State) (h' : Heap) (v : Option Value), OSt Z EL a0 n0 h0 ws own bytes mx p l e R s m args below meth c sv T' h' (k + rm.cells) (n + rm.slots) → Keep h h' ws' → Q v h' → OGo p.tables e below P T' (mkF m pc' Ls (v.toList ++ rest))) : OGo p.tables e below P T (mkF m pc Ls st) := by
  subst hq
  obtain ⟨hx, hby, hml, eT, hlk, vm0, locs, Y, I⟩ := X
  have I0 := I
  obtain ⟨b1, b2, b3, b4, b5, b6, b7, b8, b9, b10, b11⟩ := I0
  have hS : ∀ x ∈ ws', x < h.size ∧ Safe Z EL vm0 h x := fun x hx => ⟨(b11 x (hsv x hx)).2.1, (b11 x (hsv x hx)).2.2.2⟩
  have hZ : Z.Warmed39 (s.setVm vm0).vm := b5
  have hW' : 2 * (mkF m pc Ls st).monitorRoom + (rest.map fun v => v.category).sum ≤ W := by show 2 * 0 + _ ≤ _; rw [hW]; omega
  by_cases hnil : EL = []
  · obtain ⟨v, vm₁, ⟨U, L', k', n'⟩, -, Y', ⟨L, ⟨q1, q2, q3⟩, l1, l2, l3⟩, stp⟩ := Jvm.LawKit.callS Y hx (y := y) (show (s.setVm vm0).vm.findClass own = _ from b6) (mvT hZ w1) (mvT hZ w2) (mvT hZ wz) (mvT hZ wc) hy (own_payN hnil hM b5 wc wz hf hl b7 b8.1 hS) (g := mkF m pc Ls st) rfl (by rw [hml]; exact hsz) (argsL := argsL) (rest := rest) hlen hst hW' (hb hby hd) (fun _ _ => ⟨has, eT, hc, hs⟩)
    dsimp only [Pt.U, Pt.locs, Pt.cells, Pt.slots] at Y' l1 l2 l3 q1 q2 q3 stp
    subst l1 l2 l3
    exact og stp (K U U.heap v ⟨hx, hby, hml, rfl, hlk, vm0, _, Y', I.keep q2 hsv q1⟩ q2 q3)
  · obtain ⟨v, vm₁, ⟨U, L', k', n'⟩, -, Y', S', g', ⟨L, ⟨q1, q2, q3⟩, l1, l2, l3, C⟩, stp⟩ := callSS Y hx (y := y) (show (s.setVm vm0).vm.findClass own = _ from b6) (mvT hZ w1) (mvT hZ w2) (mvT hZ wz) (mvT hZ wc) hy (own_payW hM b5 wc wz hf hl b7 b8.1 hS) (g := mkF m pc Ls st) rfl (by rw [hml]; exact hsz) (argsL := argsL) (rest := rest) hlen hst hW' (hb hby hd) (fun _ _ => ⟨has, eT, hc, hs⟩)
    dsimp only [Pt.U, Pt.locs, Pt.cells, Pt.slots] at Y' l1 l2 l3 q1 q2 q3 stp S' g' C
    subst l1 l2 l3
    exact og (fun _ q => stp.trans q) (K U U.heap v ⟨hx, hby, hml, rfl, hlk, U.vm, _, Y', I.call q2 hsv q1 C S' (fun q => absurd q hnil)⟩ q2 q3)
theorem own_spec (X : OSt Z EL a0 n0 h0 ws own bytes mx p l e R s m args below meth c sv T h k n) (pc' : Nat) {y : MethodName} {index maxL W : Nat} {rm : Room} {as' : Array Value} {ws' : List Addr} {Q : Option Value → Heap → Prop} {bc : ByteArray} {a : Addr} {argsL rest : List Value} (hd : decode bytes pc = .ok (.invokespecial index, 3)) (hy1 : y.name = "<init>") (hM : OMet l Z EL n0 y [Jvm.Cond.code y bc maxL none] rm as' h ws' Q) (w1 : (Cond.methodLink own index y).before a0 Z = true) (w2 : (Cond.instanceMethod y).before a0 Z = true) (wz : (Cond.initialized y.cls).before a0 Z = true) (wc : (Cond.code y bc maxL none).before a0 Z = true) (hy : y.cls ≠ "java/lang/invoke/MethodHandle" ∧ y.cls ≠ "java/lang/invoke/VarHandle")
    (hlen : ∀ sig, parseMethodDescriptor y.desc = some sig → argsL.length = sig.parameters.length) (hst : st = argsL.reverse ++ .ref a :: rest) (has : (.ref a :: argsL).toArray = as') (hsz : Ls.size = mx) (hW : (rest.map fun v => v.category).sum = W) (hf : rm.frames + 1 ≤ R.frames) (hl : W + (maxL + 11) + rm.locals ≤ R.locals) (hc : k + rm.cells ≤ R.cells) (hs : n + rm.slots ≤ R.slots) (hsv : ∀ x ∈ ws', x ∈ sv) (hq : pc' = pc + 3)
    (K : ∀ (T' : State) (h' : Heap) (v : Option Value), OSt Z EL a0 n0 h0 ws own bytes mx p l e R s m args below meth c sv T' h' (k + rm.cells) (n + rm.slots) → Keep h h' ws' → Q v h' → OGo p.tables e below P T' (mkF m pc' Ls (v.toList ++ rest))) : OGo p.tables e below P T (mkF m pc Ls st) := by
  subst hq
  obtain ⟨hx, hby, hml, eT, hlk, vm0, locs, Y, I⟩ := X
  have I0 := I
  obtain ⟨b1, b2, b3, b4, b5, b6, b7, b8, b9, b10, b11⟩ := I0
  have hS : ∀ x ∈ ws', x < h.size ∧ Safe Z EL vm0 h x := fun x hx => ⟨(b11 x (hsv x hx)).2.1, (b11 x (hsv x hx)).2.2.2⟩
  have hZ : Z.Warmed39 (s.setVm vm0).vm := b5
  have hW' : 2 * (mkF m pc Ls st).monitorRoom + (rest.map fun v => v.category).sum ≤ W := by show 2 * 0 + _ ≤ _; rw [hW]; omega
  by_cases hnil : EL = []
  · obtain ⟨v, vm₁, ⟨U, L', k', n'⟩, -, Y', ⟨L, ⟨q1, q2, q3⟩, l1, l2, l3⟩, stp⟩ := Y.specialBack hx (y := y) hy1 (show (s.setVm vm0).vm.findClass own = _ from b6) (mvT hZ w1) (mvT hZ w2) (mvT hZ wc) hy (own_payN hnil hM b5 wc wz hf hl b7 b8.1 hS) (g := mkF m pc Ls st) rfl (by rw [hml]; exact hsz) (Steps.refl _) (a := a) (argsL := argsL) (rest := rest) hlen hst hW' (hb hby hd) (fun _ _ => ⟨has, eT, hc, hs⟩)
    dsimp only [Pt.U, Pt.locs, Pt.cells, Pt.slots] at Y' l1 l2 l3 q1 q2 q3 stp
    subst l1 l2 l3
    exact og (fun _ q => stp.trans q) (K U U.heap v ⟨hx, hby, hml, rfl, hlk, vm0, _, Y', I.keep q2 hsv q1⟩ q2 q3)
  · obtain ⟨v, vm₁, ⟨U, L', k', n'⟩, -, Y', S', g', ⟨L, ⟨q1, q2, q3⟩, l1, l2, l3, C⟩, stp⟩ := Y.specialBackS hx (y := y) hy1 (show (s.setVm vm0).vm.findClass own = _ from b6) (mvT hZ w1) (mvT hZ w2) (mvT hZ wc) hy (own_payW hM b5 wc wz hf hl b7 b8.1 hS) (g := mkF m pc Ls st) rfl (by rw [hml]; exact hsz) (Steps.refl _) (a := a) (argsL := argsL) (rest := rest) hlen hst hW' (hb hby hd) (fun _ _ => ⟨has, eT, hc, hs⟩)
    dsimp only [Pt.U, Pt.locs, Pt.cells, Pt.slots] at Y' l1 l2 l3 q1 q2 q3 stp S' g' C
    subst l1 l2 l3
    exact og (fun _ q => stp.trans q) (K U U.heap v ⟨hx, hby, hml, rfl, hlk, U.vm, _, Y', I.call q2 hsv q1 C S' (fun q => absurd q hnil)⟩ q2 q3)
theorem own_virt (X : OSt Z EL a0 n0 h0 ws own bytes mx p l e R s m args below meth c sv T h k n) (pc' : Nat) {y z : MethodName} {C : String} {index maxL W : Nat} {ret : Option FieldType} {rm : Room} {as' : Array Value} {ws' : List Addr} {Q : Option Value → Heap → Prop} {bc : ByteArray} {a : Addr} {argsL rest : List Value} (hd : decode bytes pc = .ok (.invokevirtual index, 3)) (E : Exa Z h a C) (hnf : ∀ vm0, Z.Warmed39 (s.setVm vm0).vm → NotFace (s.setVm vm0) y) (hM : OMet l Z EL n0 z [Jvm.Cond.code z bc maxL ret] rm as' h ws' Q) (w1 : (Cond.methodLink own index y).before a0 Z = true) (w2 : (Cond.declares y).before a0 Z = true) (w3 : (Cond.selects C y z).before a0 Z = true) (w4 : (Cond.instanceMethod z).before a0 Z = true) (wz : (Cond.initialized z.cls).before a0 Z = true) (wc : (Cond.code z bc maxL ret).before a0 Z = true) (hy : y.cls ≠ "java/lang/invoke/MethodHandle" ∧ y.cls ≠ "java/lang/invoke/VarHandle")
    (hlen : ∀ sig, parseMethodDescriptor y.desc = some sig → argsL.length = sig.parameters.length) (hst : st = argsL.reverse ++ .ref a :: rest) (has : (.ref a :: argsL).toArray = as') (hsz : Ls.size = mx) (hW : (rest.map fun v => v.category).sum = W) (hf : rm.frames + 1 ≤ R.frames) (hl : W + (maxL + 11) + rm.locals ≤ R.locals) (hc : k + rm.cells ≤ R.cells) (hs : n + rm.slots ≤ R.slots) (hsv : ∀ x ∈ ws', x ∈ sv) (hq : pc' = pc + 3)
    (K : ∀ (T' : State) (h' : Heap) (v : Option Value), OSt Z EL a0 n0 h0 ws own bytes mx p l e R s m args below meth c sv T' h' (k + rm.cells) (n + rm.slots) → Keep h h' ws' → Q v h' → OGo p.tables e below P T' (mkF m pc' Ls (v.toList ++ rest))) : OGo p.tables e below P T (mkF m pc Ls st) := by
  subst hq
  obtain ⟨hx, hby, hml, eT, hlk, vm0, locs, Y, I⟩ := X
  have I0 := I
  obtain ⟨b1, b2, b3, b4, b5, b6, b7, b8, b9, b10, b11⟩ := I0
  have hS : ∀ x ∈ ws', x < h.size ∧ Safe Z EL vm0 h x := fun x hx => ⟨(b11 x (hsv x hx)).2.1, (b11 x (hsv x hx)).2.2.2⟩
  have hZ : Z.Warmed39 (s.setVm vm0).vm := b5
  have hW' : 2 * (mkF m pc Ls st).monitorRoom + (rest.map fun v => v.category).sum ≤ W := by show 2 * 0 + _ ≤ _; rw [hW]; omega
  obtain ⟨cq, kq, qa, qb, qc⟩ := isOf (s := s.setVm vm0) hZ eT E
  by_cases hnil : EL = []
  · obtain ⟨v, vm₁, ⟨U, L', k', n'⟩, -, Y', ⟨L, ⟨q1, q2, q3⟩, l1, l2, l3⟩, stp⟩ := Y.virtualBack hx (y := y) (z := z) (show (s.setVm vm0).vm.findClass own = _ from b6) (mvT hZ w1) (mvT hZ w2) (hnf vm0 hZ) (mvT hZ w3) (mvT hZ w4) hy (own_payN hnil hM b5 wc wz hf hl b7 b8.1 hS) qa qc (g := mkF m pc Ls st) rfl (by rw [hml]; exact hsz) (Steps.refl _) (argsL := argsL) (rest := rest) hlen hst hW' (hb hby hd) (fun _ _ => ⟨has, eT, hc, hs⟩)
    dsimp only [Pt.U, Pt.locs, Pt.cells, Pt.slots] at Y' l1 l2 l3 q1 q2 q3 stp
    subst l1 l2 l3
    exact og (fun _ q => stp.trans q) (K U U.heap v ⟨hx, hby, hml, rfl, hlk, vm0, _, Y', I.keep q2 hsv q1⟩ q2 q3)
  · obtain ⟨v, vm₁, ⟨U, L', k', n'⟩, -, Y', S', g', ⟨L, ⟨q1, q2, q3⟩, l1, l2, l3, C⟩, stp⟩ := Y.virtualBackS hx (y := y) (z := z) (show (s.setVm vm0).vm.findClass own = _ from b6) (mvT hZ w1) (mvT hZ w2) (hnf vm0 hZ) (mvT hZ w3) (mvT hZ w4) hy (own_payW hM b5 wc wz hf hl b7 b8.1 hS) qa qc (g := mkF m pc Ls st) rfl (by rw [hml]; exact hsz) (Steps.refl _) (argsL := argsL) (rest := rest) hlen hst hW' (hb hby hd) (fun _ _ => ⟨has, eT, hc, hs⟩)
    dsimp only [Pt.U, Pt.locs, Pt.cells, Pt.slots] at Y' l1 l2 l3 q1 q2 q3 stp S' g' C
    subst l1 l2 l3
    exact og (fun _ q => stp.trans q) (K U U.heap v ⟨hx, hby, hml, rfl, hlk, U.vm, _, Y', I.call q2 hsv q1 C S' (fun q => absurd q hnil)⟩ q2 q3)
theorem own_specB (X : OSt Z EL a0 n0 h0 ws own bytes mx p l e R s m args below meth c sv T h k n) (pc' : Nat) {y : MethodName} {index maxL W rc rs : Nat} {as' : Array Value} {ws' : List Addr} {Q : Option Value → Heap → List Loc → Prop} {bc : ByteArray} {a : Addr} {argsL rest : List Value} (hd : decode bytes pc = .ok (.invokespecial index, 3)) (hy1 : y.name = "<init>")
    (hK : ∀ vm0, Z.Warmed39 (s.setVm vm0).vm → Back l R p e below (s.setVm vm0) args y 3 W (fun A a => a = as' ∧ A.U.heap = h ∧ A.cells + rc ≤ R.cells ∧ A.slots + rs ≤ R.slots) (fun A _ v B => ∃ L, Q v B.U.heap L ∧ B.locs = A.locs ++ L ∧ B.cells = A.cells + rc ∧ B.slots = A.slots + rs)) (hQ : ∀ v h' L, Q v h' L → Fr n0 L ∧ Keep h h' ws')
    (w1 : (Cond.methodLink own index y).before a0 Z = true) (w2 : (Cond.instanceMethod y).before a0 Z = true) (wc : (Cond.code y bc maxL none).before a0 Z = true) (hy : y.cls ≠ "java/lang/invoke/MethodHandle" ∧ y.cls ≠ "java/lang/invoke/VarHandle")
    (hlen : ∀ sig, parseMethodDescriptor y.desc = some sig → argsL.length = sig.parameters.length) (hst : st = argsL.reverse ++ .ref a :: rest) (has : (.ref a :: argsL).toArray = as') (hsz : Ls.size = mx) (hW : (rest.map fun v => v.category).sum = W) (hc : k + rc ≤ R.cells) (hs : n + rs ≤ R.slots) (hsv : ∀ x ∈ ws', x ∈ sv) (hq : pc' = pc + 3)
    (K : ∀ (T' : State) (h' : Heap) (v : Option Value) (L : List Loc), OSt Z EL a0 n0 h0 ws own bytes mx p l e R s m args below meth c sv T' h' (k + rc) (n + rs) → Keep h h' ws' → Q v h' L → OGo p.tables e below P T' (mkF m pc' Ls (v.toList ++ rest))) : OGo p.tables e below P T (mkF m pc Ls st) := by
  subst hq
  obtain ⟨hx, hby, hml, eT, hlk, vm0, locs, Y, I⟩ := X
  have hZ : Z.Warmed39 (s.setVm vm0).vm := I.2.2.2.2.1
  have hW' : 2 * (mkF m pc Ls st).monitorRoom + (rest.map fun v => v.category).sum ≤ W := by show 2 * 0 + _ ≤ _; rw [hW]; omega
  obtain ⟨v, vm₁, ⟨U, L', k', n'⟩, -, Y', ⟨L, q, l1, l2, l3⟩, stp⟩ := Y.specialBack hx (y := y) hy1 (show (s.setVm vm0).vm.findClass own = _ from I.2.2.2.2.2.1) (mvT hZ w1) (mvT hZ w2) (mvT hZ wc) hy (hK vm0 hZ) (g := mkF m pc Ls st) rfl (by rw [hml]; exact hsz) (Steps.refl _) (a := a) (argsL := argsL) (rest := rest) hlen hst hW' (hb hby hd) (fun _ _ => ⟨has, eT, hc, hs⟩)
  dsimp only [Pt.U, Pt.locs, Pt.cells, Pt.slots] at Y' l1 l2 l3 q stp
  subst l1 l2 l3
  exact og (fun _ q => stp.trans q) (K U U.heap v L ⟨hx, hby, hml, rfl, hlk, vm0, _, Y', I.keep (hQ _ _ _ q).2 hsv (hQ _ _ _ q).1⟩ (hQ _ _ _ q).2 q)
theorem own_virtB (X : OSt Z EL a0 n0 h0 ws own bytes mx p l e R s m args below meth c sv T h k n) (pc' : Nat) {y z : MethodName} {C : String} {index W rc rs : Nat} {as' : Array Value} {ws' : List Addr} {Q : Option Value → Heap → List Loc → Prop} {a : Addr} {argsL rest : List Value} (hd : decode bytes pc = .ok (.invokevirtual index, 3)) (E : Exa Z h a C) (hnf : ∀ vm0, Z.Warmed39 (s.setVm vm0).vm → NotFace (s.setVm vm0) y)
    (hK : ∀ vm0, Z.Warmed39 (s.setVm vm0).vm → Back l R p e below (s.setVm vm0) args z 3 W (fun A a => a = as' ∧ A.U.heap = h ∧ A.cells + rc ≤ R.cells ∧ A.slots + rs ≤ R.slots) (fun A _ v B => ∃ L, Q v B.U.heap L ∧ B.locs = A.locs ++ L ∧ B.cells = A.cells + rc ∧ B.slots = A.slots + rs)) (hQ : ∀ v h' L, Q v h' L → Fr n0 L ∧ Keep h h' ws')
    (w1 : (Cond.methodLink own index y).before a0 Z = true) (w2 : (Cond.declares y).before a0 Z = true) (w3 : (Cond.selects C y z).before a0 Z = true) (w4 : (Cond.instanceMethod z).before a0 Z = true) (hy : y.cls ≠ "java/lang/invoke/MethodHandle" ∧ y.cls ≠ "java/lang/invoke/VarHandle")
    (hlen : ∀ sig, parseMethodDescriptor y.desc = some sig → argsL.length = sig.parameters.length) (hst : st = argsL.reverse ++ .ref a :: rest) (has : (.ref a :: argsL).toArray = as') (hsz : Ls.size = mx) (hW : (rest.map fun v => v.category).sum = W) (hc : k + rc ≤ R.cells) (hs : n + rs ≤ R.slots) (hsv : ∀ x ∈ ws', x ∈ sv) (hq : pc' = pc + 3)
    (K : ∀ (T' : State) (h' : Heap) (v : Option Value) (L : List Loc), OSt Z EL a0 n0 h0 ws own bytes mx p l e R s m args below meth c sv T' h' (k + rc) (n + rs) → Keep h h' ws' → Q v h' L → OGo p.tables e below P T' (mkF m pc' Ls (v.toList ++ rest))) : OGo p.tables e below P T (mkF m pc Ls st) := by
  subst hq
  obtain ⟨hx, hby, hml, eT, hlk, vm0, locs, Y, I⟩ := X
  have hZ : Z.Warmed39 (s.setVm vm0).vm := I.2.2.2.2.1
  have hW' : 2 * (mkF m pc Ls st).monitorRoom + (rest.map fun v => v.category).sum ≤ W := by show 2 * 0 + _ ≤ _; rw [hW]; omega
  obtain ⟨cq, kq, qa, qb, qc⟩ := isOf (s := s.setVm vm0) hZ eT E
  obtain ⟨v, vm₁, ⟨U, L', k', n'⟩, -, Y', ⟨L, q, l1, l2, l3⟩, stp⟩ := Y.virtualBack hx (y := y) (z := z) (show (s.setVm vm0).vm.findClass own = _ from I.2.2.2.2.2.1) (mvT hZ w1) (mvT hZ w2) (hnf vm0 hZ) (mvT hZ w3) (mvT hZ w4) hy (hK vm0 hZ) qa qc (g := mkF m pc Ls st) rfl (by rw [hml]; exact hsz) (Steps.refl _) (argsL := argsL) (rest := rest) hlen hst hW' (hb hby hd) (fun _ _ => ⟨has, eT, hc, hs⟩)
  dsimp only [Pt.U, Pt.locs, Pt.cells, Pt.slots] at Y' l1 l2 l3 q stp
  subst l1 l2 l3
  exact og (fun _ q => stp.trans q) (K U U.heap v L ⟨hx, hby, hml, rfl, hlk, vm0, _, Y', I.keep (hQ _ _ _ q).2 hsv (hQ _ _ _ q).1⟩ (hQ _ _ _ q).2 q)
theorem own_svb (X : OSt Z EL a0 n0 h0 ws own bytes mx p l e R s m args below meth c sv T h k n) {a : Addr} (ha : a ∈ sv) : n0 ≤ a ∧ a < h.size := by
  obtain ⟨-, -, -, -, -, _, _, -, -, -, -, -, -, -, -, -, -, -, q⟩ := X
  exact ⟨(q a ha).1, (q a ha).2.1⟩
theorem own_fitR {t : FieldType} {w : Value} (ht : t.isReference = true) (hw : w.isRef = true) : fits t w = true := by
  rcases ref_cases hw with rfl | ⟨a, rfl⟩ <;> cases t <;> first | rfl | cases ht
theorem own_sto {a y : Addr} {kb : ClassId} {ty : FieldType} {z : Int32} {vs : List Value} {dv : Value} {C : String} (A : Arv Z h a kb ty z vs dv) (O : Ovr Z kb C) (i : Ins Z h y C true) : Sto Z h a (.ref y) := by
  obtain ⟨cl, Ar, q, -⟩ := A
  exact Sto.ofV Ar q O i
theorem own_face (X : OSt Z EL a0 n0 h0 ws own bytes mx p l e R s m args below meth c sv T h k n) (pc' : Nat) {y z : MethodName} {C : String} {index count maxL W : Nat} {ret : Option FieldType} {rm : Room} {as' : Array Value} {ws' : List Addr} {Q : Option Value → Heap → Prop} {bc : ByteArray} {a : Addr} {argsL rest : List Value} (hd : decode bytes pc = .ok (.invokeinterface index count, 5)) (E : Exa Z h a C) (hM : OMet l Z EL n0 z [Jvm.Cond.code z bc maxL ret] rm as' h ws' Q) (w1 : (Cond.methodLink own index y).before a0 Z = true) (w2 : (Cond.declares y).before a0 Z = true) (w3 : (Cond.interfaceMethod y.cls y.cls y.name y.desc).before a0 Z = true) (w4 : (Cond.selects C y z).before a0 Z = true) (w5 : (Cond.instanceMethod z).before a0 Z = true) (w6 : (Cond.publicMethod z).before a0 Z = true) (w7 : (Cond.unhidden C y.name y.desc).before a0 Z = true) (w8 : (Cond.castable C y.cls).before a0 Z = true) (wz : (Cond.initialized z.cls).before a0 Z = true) (wc : (Cond.code z bc maxL ret).before a0 Z = true) (hy : y.cls ≠ "java/lang/invoke/MethodHandle" ∧ y.cls ≠ "java/lang/invoke/VarHandle")
    (hlen : ∀ sig, parseMethodDescriptor y.desc = some sig → argsL.length = sig.parameters.length) (hst : st = argsL.reverse ++ .ref a :: rest) (has : (.ref a :: argsL).toArray = as') (hsz : Ls.size = mx) (hW : (rest.map fun v => v.category).sum = W) (hf : rm.frames + 1 ≤ R.frames) (hl : W + (maxL + 11) + rm.locals ≤ R.locals) (hc : k + rm.cells ≤ R.cells) (hs : n + rm.slots ≤ R.slots) (hsv : ∀ x ∈ ws', x ∈ sv) (hq : pc' = pc + 5)
    (K : ∀ (T' : State) (h' : Heap) (v : Option Value), OSt Z EL a0 n0 h0 ws own bytes mx p l e R s m args below meth c sv T' h' (k + rm.cells) (n + rm.slots) → Keep h h' ws' → Q v h' → OGo p.tables e below P T' (mkF m pc' Ls (v.toList ++ rest))) : OGo p.tables e below P T (mkF m pc Ls st) := by
  subst hq
  obtain ⟨hx, hby, hml, eT, hlk, vm0, locs, Y, I⟩ := X
  have I0 := I
  obtain ⟨b1, b2, b3, b4, b5, b6, b7, b8, b9, b10, b11⟩ := I0
  have hS : ∀ x ∈ ws', x < h.size ∧ Safe Z EL vm0 h x := fun x hx => ⟨(b11 x (hsv x hx)).2.1, (b11 x (hsv x hx)).2.2.2⟩
  have hZ : Z.Warmed39 (s.setVm vm0).vm := b5
  have hW' : 2 * (mkF m pc Ls st).monitorRoom + (rest.map fun v => v.category).sum ≤ W := by show 2 * 0 + _ ≤ _; rw [hW]; omega
  obtain ⟨cq, kq, qa, qb, qc⟩ := isOf (s := s.setVm vm0) hZ eT E
  by_cases hnil : EL = []
  · obtain ⟨v, vm₁, ⟨U, L', k', n'⟩, -, Y', ⟨L, ⟨q1, q2, q3⟩, l1, l2, l3⟩, stp⟩ := Y.interfaceBack hx (xi := y) (y := z) (show (s.setVm vm0).vm.findClass own = _ from b6) (mvT hZ w1 (by first | rfl | decide | simp [Cond.onTables, Cond.keepsFace, Cond.keeps, Cond.steady, Cond.faceAtom, hy.1, hy.2])) (mvT hZ w2 (by first | rfl | decide | simp [Cond.onTables, Cond.keepsFace, Cond.keeps, Cond.steady, Cond.faceAtom, hy.1, hy.2])) (mvT hZ w3 (by first | rfl | decide | simp [Cond.onTables, Cond.keepsFace, Cond.keeps, Cond.steady, Cond.faceAtom, hy.1, hy.2])) (mvT hZ w4 (by first | rfl | decide | simp [Cond.onTables, Cond.keepsFace, Cond.keeps, Cond.steady, Cond.faceAtom, hy.1, hy.2])) (mvT hZ w5 (by first | rfl | decide | simp [Cond.onTables, Cond.keepsFace, Cond.keeps, Cond.steady, Cond.faceAtom, hy.1, hy.2])) (mvT hZ w6 (by first | rfl | decide | simp [Cond.onTables, Cond.keepsFace, Cond.keeps, Cond.steady, Cond.faceAtom, hy.1, hy.2])) (mvT hZ w7 (by first | rfl | decide | simp [Cond.onTables, Cond.keepsFace, Cond.keeps, Cond.steady, Cond.faceAtom, hy.1, hy.2])) (mvT hZ w8 (by first | rfl | decide | simp [Cond.onTables, Cond.keepsFace, Cond.keeps, Cond.steady, Cond.faceAtom, hy.1, hy.2])) hy (own_payN hnil hM b5 wc wz hf hl b7 b8.1 hS) qa qb qc (g := mkF m pc Ls st) rfl (by rw [hml]; exact hsz) (Steps.refl _) (argsL := argsL) (rest := rest) hlen hst hW' (hb hby hd) (fun _ _ => ⟨has, eT, hc, hs⟩)
    dsimp only [Pt.U, Pt.locs, Pt.cells, Pt.slots] at Y' l1 l2 l3 q1 q2 q3 stp
    subst l1 l2 l3
    exact og (fun _ q => stp.trans q) (K U U.heap v ⟨hx, hby, hml, rfl, hlk, vm0, _, Y', I.keep q2 hsv q1⟩ q2 q3)
  · obtain ⟨v, vm₁, ⟨U, L', k', n'⟩, -, Y', S', g', ⟨L, ⟨q1, q2, q3⟩, l1, l2, l3, C⟩, stp⟩ := Y.interfaceBackS hx (xi := y) (y := z) (show (s.setVm vm0).vm.findClass own = _ from b6) (mvT hZ w1 (by first | rfl | decide | simp [Cond.onTables, Cond.keepsFace, Cond.keeps, Cond.steady, Cond.faceAtom, hy.1, hy.2])) (mvT hZ w2 (by first | rfl | decide | simp [Cond.onTables, Cond.keepsFace, Cond.keeps, Cond.steady, Cond.faceAtom, hy.1, hy.2])) (mvT hZ w3 (by first | rfl | decide | simp [Cond.onTables, Cond.keepsFace, Cond.keeps, Cond.steady, Cond.faceAtom, hy.1, hy.2])) (mvT hZ w4 (by first | rfl | decide | simp [Cond.onTables, Cond.keepsFace, Cond.keeps, Cond.steady, Cond.faceAtom, hy.1, hy.2])) (mvT hZ w5 (by first | rfl | decide | simp [Cond.onTables, Cond.keepsFace, Cond.keeps, Cond.steady, Cond.faceAtom, hy.1, hy.2])) (mvT hZ w6 (by first | rfl | decide | simp [Cond.onTables, Cond.keepsFace, Cond.keeps, Cond.steady, Cond.faceAtom, hy.1, hy.2])) (mvT hZ w7 (by first | rfl | decide | simp [Cond.onTables, Cond.keepsFace, Cond.keeps, Cond.steady, Cond.faceAtom, hy.1, hy.2])) (mvT hZ w8 (by first | rfl | decide | simp [Cond.onTables, Cond.keepsFace, Cond.keeps, Cond.steady, Cond.faceAtom, hy.1, hy.2])) hy (own_payW hM b5 wc wz hf hl b7 b8.1 hS) qa qb qc (g := mkF m pc Ls st) rfl (by rw [hml]; exact hsz) (Steps.refl _) (argsL := argsL) (rest := rest) hlen hst hW' (hb hby hd) (fun _ _ => ⟨has, eT, hc, hs⟩)
    dsimp only [Pt.U, Pt.locs, Pt.cells, Pt.slots] at Y' l1 l2 l3 q1 q2 q3 stp S' g' C
    subst l1 l2 l3
    exact og (fun _ q => stp.trans q) (K U U.heap v ⟨hx, hby, hml, rfl, hlk, U.vm, _, Y', I.call q2 hsv q1 C S' (fun q => absurd q hnil)⟩ q2 q3)
theorem own_ldcO (X : OSt Z EL a0 n0 h0 ws own bytes mx p l e R s m args below meth c sv T h k n) (pc' : Nat) {index cap : Nat} {text : String} (hd : decode bytes pc = .ok (.ldc index, 2)) (hne : EL ≠ []) (w : (Cond.stringLink own index text).before a0 Z = true) (wS : ∀ a ∈ Bundle.stringAtoms, a.before a0 Z = true) (hcap : 4 * text.toList.length ≤ cap) (hbig : cap ≤ 536870912) (hc : k + 2 ≤ R.cells) (hl : n + (cap + 4) ≤ R.slots) (hq : pc' = pc + 2)
    (K : ∀ (T' : State) (h' : Heap) (a : Addr), OSt Z EL a0 n0 h0 ws own bytes mx p l e R s m args below meth c sv T' h' (k + 2) (n + (cap + 4)) → Keep h h' [] → OGo p.tables e below P T' (mkF m pc' Ls (.ref a :: st))) : OGo p.tables e below P T (mkF m pc Ls st) := by
  subst hq
  obtain ⟨hx, hby, hml, eT, hlk, vm0, locs, Y, I⟩ := X
  have I0 := I
  obtain ⟨b1, b2, b3, ⟨k0, b4, b4'⟩, b5, b6, b7, b8, b9, b10, b11⟩ := I0
  obtain ⟨a, T', h', k1, Y', e', E, S', hk', hZ', hown', C, -, stp⟩ := ldcOH Y hx b5 b6 w wS eT b4 b4' b7 b8.1 (g := mkF m pc Ls st) rfl (hb hby hd) hcap hbig hc hl
  have hZ' : Z.Warmed39 T'.vm := hZ'
  refine og stp (K T' h' a ⟨hx, hby, hml, e', hlk, T'.vm, locs, Y', b1, b2.ext E, b3.ext E, ⟨k1, S', hk'⟩, hZ', hown', b7, b8.trans C, fun q => absurd q hne, b10, fun x hx => ?_⟩ ((Keep.refl _ _).ext E))
  exact ⟨(b11 x hx).1, Nat.lt_of_lt_of_le (b11 x hx).2.1 E.1, (b11 x hx).2.2.1, C.safe (b11 x hx).2.1 (b11 x hx).2.2.2⟩
theorem own_ldcR (X : OSt Z EL a0 n0 h0 ws own bytes mx p l e R s m args below meth c sv T h k n) (pc' : Nat) {index cap : Nat} {text : String} {vs : List Value} {z : Int32} (hd : decode bytes pc = .ok (.ldc index, 2)) (hmem : (own, index) ∈ EL) (w : (Cond.stringLink own index text).before a0 Z = true) (wS : ∀ a ∈ Bundle.stringAtoms, a.before a0 Z = true) (ht : (∀ c ∈ text.toList, c.toNat < 256) ∧ text.toList.map (fun c => Value.int (Jvm.Lit.byteI c.toNat.toUInt16)) = vs) (hz : ¬ z < 0) (hlz : z.toNatClampNeg = vs.length) (hcap : 4 * text.toList.length ≤ cap) (hbig : cap ≤ 536870912) (hc : k + 2 ≤ R.cells) (hl : n + (cap + 4) ≤ R.slots) (hq : pc' = pc + 2)
    (K : ∀ (T' : State) (h' : Heap) (a b : Addr) (kb : ClassId), OSt Z EL a0 n0 h0 ws own bytes mx p l e R s m args below meth c sv T' h' (k + 2) (n + (cap + 4)) → Keep h h' [] → Exa Z h' a "java/lang/String" → Fld Z h' a "java/lang/String" "coder" "B" (.int 0) → Fld Z h' a "java/lang/String" "value" "[B" (.ref b) → Arv Z h' b kb .byte z vs (.int 0) → (∀ x ∈ sv, x ≠ a ∧ x ≠ b) → OGo p.tables e below P T' (mkF m pc' Ls (.ref a :: st))) : OGo p.tables e below P T (mkF m pc Ls st) := by
  subst hq
  obtain ⟨hx, hby, hml, eT, hlk, vm0, locs, Y, I⟩ := X
  have I0 := I
  obtain ⟨b1, b2, b3, ⟨k0, b4, b4'⟩, b5, b6, b7, b8, b9, b10, b11⟩ := I0
  obtain ⟨a, T', h', k1, b, kb, Y', e', E, S', hk', hZ', hown', r1, r2, r3, r4, r5, r6, C, -, far, stp⟩ := ldcCH Y hx b5 b6 w wS eT b4 b4' b7 hmem b8.1 ht hz hlz (g := mkF m pc Ls st) rfl (hb hby hd) hcap hbig hc hl
  have hZ' : Z.Warmed39 T'.vm := hZ'
  have sf : ∀ x ∈ sv, Safe Z EL T'.vm h' x := fun x hx => C.safe (b11 x hx).2.1 (b11 x hx).2.2.2
  refine og stp (K T' h' a b kb ⟨hx, hby, hml, e', hlk, T'.vm, locs, Y', b1, b2.ext E, b3.ext E, ⟨k1, S', hk'⟩, hZ', hown', b7, b8.trans C, fun q => ?_, b10, fun x hx => ?_⟩ ((Keep.refl _ _).ext E) r1 r2 r3 r4 fun x hx => far x (sf x hx))
  · rw [q] at hmem; cases hmem
  · exact ⟨(b11 x hx).1, Nat.lt_of_lt_of_le (b11 x hx).2.1 E.1, (b11 x hx).2.2.1, sf x hx⟩
theorem own_n0 (X : OSt Z EL a0 n0 h0 ws own bytes mx p l e R s m args below meth c sv T h k n) : n0 ≤ h.size := X.old.1 ▸ X.old.2.1
def OFar (Z : State) (h : Heap) (B : Nat) (y : Addr) : Prop := B ≤ y ∨ ∃ (C : String) (kk : Nat) (a0 : Array Value), Exa Z h y C ∧ C ≠ "java/lang/String" ∧ (Jvm.Cond.instantiable C kk).before a0 Z = true
def OStr (Z : State) (h : Heap) (x : Addr) (cs : List Int32) (B : Nat) : Prop := ∃ (t : Addr) (kb : ClassId) (cd N : Int32) (vs : List Value), Exa Z h x "java/lang/String" ∧ Fld Z h x "java/lang/String" "coder" "B" (.int cd) ∧ Fld Z h x "java/lang/String" "value" "[B" (.ref t) ∧ Arv Z h t kb .byte N vs (.int 0) ∧ StrChars.Road.CodA cs cd N vs ∧ (∀ c ∈ cs, ¬ c < 0 ∧ ¬ (65535 : Int32) < c) ∧ cs.length ≤ 4000 ∧ x < B ∧ t < B
theorem OStr.exa {Z : State} {h : Heap} {x : Addr} {cs : List Int32} {B : Nat} (F : OStr Z h x cs B) : Exa Z h x "java/lang/String" := by obtain ⟨t, kb, cd, N, vs, r, -⟩ := F; exact r
theorem OStr.lt {Z : State} {h : Heap} {x : Addr} {cs : List Int32} {B : Nat} (F : OStr Z h x cs B) : x < h.size := F.exa.lt
theorem OStr.ltB {Z : State} {h : Heap} {x : Addr} {cs : List Int32} {B : Nat} (F : OStr Z h x cs B) : x < B := by obtain ⟨t, kb, cd, N, vs, -, -, -, -, -, -, -, r, -⟩ := F; exact r
theorem OStr.top {Z : State} {h : Heap} {x : Addr} {cs : List Int32} {B : Nat} (F : OStr Z h x cs B) : OStr Z h x cs h.size := by
  obtain ⟨t, kb, cd, N, vs, r1, r2, r3, r4, r5, r6, r7, -, -⟩ := F
  exact ⟨t, kb, cd, N, vs, r1, r2, r3, r4, r5, r6, r7, r1.lt, r4.lt⟩
theorem OStr.keep {Z : State} {h h' : Heap} {x : Addr} {cs : List Int32} {B : Nat} {ws : List Addr} (F : OStr Z h x cs B) (K : Keep h h' ws) (q : ∀ y ∈ ws, OFar Z h B y) : OStr Z h' x cs B := by
  obtain ⟨t, kb, cd, N, vs, r1, r2, r3, r4, r5, r6, r7, r8, r9⟩ := F
  have nx : x ∉ ws := fun hx => by
    rcases q x hx with u | ⟨C, kk, a0, E, hC, -⟩
    · exact absurd r8 (Nat.not_lt.mpr u)
    · exact ne_exa r1 E (Ne.symm hC) rfl
  have nt : t ∉ ws := fun hx => by
    rcases q t hx with u | ⟨C, kk, a0, E, hC, wi⟩
    · exact absurd r9 (Nat.not_lt.mpr u)
    · obtain ⟨c, A, -⟩ := r4
      exact ne_arr E wi A rfl
  exact ⟨t, kb, cd, N, vs, r1.keep K, r2.keep K nx, r3.keep K nx, r4.keep K nt, r5, r6, r7, r8, r9⟩
theorem own_mkStr {Z : State} {h : Heap} {x t : Addr} {kb : ClassId} {cs bs : List Int32} {N : Int32} {n : Nat} (E : Exa Z h x "java/lang/String") (C : Fld Z h x "java/lang/String" "coder" "B" (.int 0)) (V : Fld Z h x "java/lang/String" "value" "[B" (.ref t)) (A : Arv Z h t kb .byte N (bs.map Value.int) (.int 0)) (hb : bs = cs.map (fun c => c.toInt8.toInt32)) (hp : ∀ c ∈ cs, ¬ c < 0 ∧ ¬ (255 : Int32) < c) (hn : cs.length = n) (hN : N = Int32.ofNat n) (hl : n ≤ 4000) : OStr Z h x cs h.size := by
  subst hn hN hb
  exact ⟨t, kb, 0, _, _, E, C, V, A, StrChars.Road.codOf rfl (fun c hc => (hp c hc).2), fun c hc => ⟨(hp c hc).1, own_up8 (hp c hc).2⟩, hl, E.lt, A.lt⟩
def own_eqb (cs ds : List Int32) : Int32 := if cs = ds then 1 else 0
theorem own_eqb01 (cs ds : List Int32) : own_eqb cs ds = 0 ∨ own_eqb cs ds = 1 := by unfold own_eqb; split <;> simp
theorem own_eqb0 {cs ds : List Int32} : own_eqb cs ds = 0 ↔ ¬ cs = ds := by unfold own_eqb; split <;> simp_all
theorem own_strEq  (X : OSt Z EL a0 n0 h0 ws own bytes mx p l e R s m args below meth c sv T h k n) (pc' : Nat) {index W : Nat} {x y : Addr} {cs ds : List Int32} {B1 B2 : Nat} {z0 : Int32} {rest : List Value} (hd : decode bytes pc = .ok (.invokevirtual index, 3)) (S1 : OStr Z h x cs B1) (S2 : OStr Z h y ds B2) (hwq : ∀ d ∈ StrChars.Road.wordsEq, d.before a0 Z = true) (wi : (Jvm.Cond.instantiable "java/lang/String" 4).before a0 Z = true) (hcs : Sta Z Z.heap "java/lang/String" "COMPACT_STRINGS" "Z" (.int z0)) (hz : ¬ z0 = 0)
    (w1 : (Jvm.Cond.methodLink own index (⟨"java/lang/String", "equals", "(Ljava/lang/Object;)Z"⟩ : MethodName)).before a0 Z = true) (w2 : (Jvm.Cond.declares (⟨"java/lang/String", "equals", "(Ljava/lang/Object;)Z"⟩ : MethodName)).before a0 Z = true) (w3 : (Jvm.Cond.selects "java/lang/String" (⟨"java/lang/String", "equals", "(Ljava/lang/Object;)Z"⟩ : MethodName) (⟨"java/lang/String", "equals", "(Ljava/lang/Object;)Z"⟩ : MethodName)).before a0 Z = true) (w4 : (Jvm.Cond.instanceMethod (⟨"java/lang/String", "equals", "(Ljava/lang/Object;)Z"⟩ : MethodName)).before a0 Z = true)
    (hsz : Ls.size = mx) (hW : (rest.map fun v => v.category).sum = W) (hfr : 2 ≤ R.frames) (hlo : W + 28 ≤ R.locals) (hc : k ≤ R.cells) (hs : n ≤ R.slots) (hq : pc' = pc + 3)
    (K : ∀ (T' : State), OSt Z EL a0 n0 h0 ws own bytes mx p l e R s m args below meth c sv T' h k n → OGo p.tables e below P T' (mkF m pc' Ls (.int (own_eqb cs ds) :: rest))) : OGo p.tables e below P T (mkF m pc Ls (.ref y :: .ref x :: rest)) := by
  obtain ⟨t1, k1, cd1, N1, vs1, E1, C1, V1, A1, c1, b1, l1, -, -⟩ := S1
  obtain ⟨t2, k2, cd2, N2, vs2, E2, C2, V2, A2, c2, b2, l2, -, -⟩ := S2
  have O1 := X.old
  have hpd : parseMethodDescriptor "(Ljava/lang/Object;)Z" = some ⟨[.object "java/lang/Object"], some .boolean⟩ := by decide +kernel
  refine own_virtB X pc' (a := x) (argsL := [.ref y]) (rest := rest) (Q := fun v h' L => (((v = some (.int 1) ∧ cs = ds) ∨ (v = some (.int 0) ∧ ¬ cs = ds)) ∧ L = [] ∧ h' = h)) hd E1 (fun _ hZ => notFace_of_selects (args := #[]) (mvT hZ w3)) (fun vm0 hZ => StrChars.Road.eqW (W := W) hZ hwq (kI := 4) wi E1 V1 C1 A1 c1 b1 l1 E2 V2 C2 A2 c2 b2 l2 (hcs.ext O1.2) hz hfr hlo) (ws' := []) (fun v h' L q => ⟨by obtain ⟨-, rfl, -⟩ := q; exact Fr.nil _, by obtain ⟨-, -, rfl⟩ := q; exact Keep.refl _ _⟩) w1 w2 w3 w4 (by decide) (lenOf hpd rfl) rfl rfl hsz hW hc hs all0 hq ?_
  rintro T' h' v L X' K' ⟨q1, -, rfl⟩
  rcases q1 with ⟨rfl, q⟩ | ⟨rfl, q⟩
  · have e : own_eqb cs ds = 1 := if_pos q
    have := K T' X'
    rw [e] at this; exact this
  · have e : own_eqb cs ds = 0 := if_neg q
    have := K T' X'
    rw [e] at this; exact this
end OwnKit
def own_EL : List (String × Nat) := consts_1
def OWorld (Z : State) (a0 : Array Value) : Prop := EW Z a0 own_EL ∧ (Sta Z Z.heap "java/lang/String" "COMPACT_STRINGS" "Z" (.int (own_sti Z "java/lang/String" "COMPACT_STRINGS" "Z")) ∧ ¬ (own_sti Z "java/lang/String" "COMPACT_STRINGS" "Z") = 0)
def own_eq2 (a b c d : List Int32) : Int32 := if a = c ∧ b = d then 1 else 0
theorem own_eq2_1 {a b c d : List Int32} (h1 : a = c) (h2 : b = d) : own_eq2 a b c d = 1 := if_pos ⟨h1, h2⟩
theorem own_eq2_0 {a b c d : List Int32} (h : ¬ (a = c ∧ b = d)) : own_eq2 a b c d = 0 := if_neg h
theorem own_eqb_yes {a b : List Int32} (h : ¬ own_eqb a b = 0) : a = b := Classical.byContradiction fun q => h (own_eqb0.mpr q)
def own_mk (x : Int32) : List Int32 := if x &&& 3 = 0 then [] else if x &&& 3 = 1 then [XT.ushr x 2 &&& 255] else if x &&& 3 = 2 then [XT.ushr x 2 &&& 255, XT.ushr x 10 &&& 255] else [XT.ushr x 2 &&& 255, XT.ushr x 10 &&& 255, XT.ushr x 18 &&& 255]
def own_sameJ (x y : Int32) : Int32 := if x &&& 3 = y &&& 3 then (if x &&& 3 = 0 then (if XT.ushr (x ^^^ y) 2 &&& 0 = 0 then 1 else 0) else if x &&& 3 = 1 then (if XT.ushr (x ^^^ y) 2 &&& 255 = 0 then 1 else 0) else if x &&& 3 = 2 then (if XT.ushr (x ^^^ y) 2 &&& 65535 = 0 then 1 else 0) else (if XT.ushr (x ^^^ y) 2 &&& 16777215 = 0 then 1 else 0)) else 0
theorem own_same_eq (x y : Int32) : own_sameJ x y = own_eqb (own_mk x) (own_mk y) := by
  have hx := own_N_lt x
  have hy := own_N_lt y
  have a0 : ∀ z : Int32, own_N (z &&& 0) = own_N z % 1 := fun z => own_N_and 0 rfl
  have a1 : ∀ z : Int32, own_N (z &&& 65535) = own_N z % 65536 := fun z => own_N_and 16 rfl
  have a2 : ∀ z : Int32, own_N (z &&& 16777215) = own_N z % 16777216 := fun z => own_N_and 24 rfl
  have b1 : ∀ z : Int32, own_N (XT.ushr z 2) = own_N z / 4 := fun z => own_N_ushr 2 rfl (by decide)
  have b2 : ∀ z : Int32, own_N (XT.ushr z 10) = own_N z / 1024 := fun z => own_N_ushr 10 rfl (by decide)
  have b3 : ∀ z : Int32, own_N (XT.ushr z 18) = own_N z / 262144 := fun z => own_N_ushr 18 rfl (by decide)
  have c0 : own_N 0 = 0 := rfl
  have c1 : own_N 1 = 1 := rfl
  have c2 : own_N 2 = 2 := rfl
  unfold own_sameJ own_eqb own_mk
  simp only [own_xor_ushr_and, own_xor0]
  simp only [← own_N_inj (x := _ &&& 3), ← own_N_inj (x := XT.ushr x 2 &&& _), own_N3, own_N255, a0, a1, a2, b1, b2, b3, c0, c1, c2]
  have ex : own_N x % 4 = 0 ∨ own_N x % 4 = 1 ∨ own_N x % 4 = 2 ∨ own_N x % 4 = 3 := by omega
  have ey : own_N y % 4 = 0 ∨ own_N y % 4 = 1 ∨ own_N y % 4 = 2 ∨ own_N y % 4 = 3 := by omega
  rcases ex with e | e | e | e <;> rcases ey with f | f | f | f <;> rw [e, f] <;> simp +decide only [if_true, if_false, reduceIte, List.cons.injEq, and_true, reduceCtorEq, and_false, ← own_N_inj (x := _ &&& _), own_N3, own_N255, a0, a1, a2, b1, b2, b3, c0, c1, c2] <;> first | done | (rw [if_pos (by omega)]; done) | (congr 1; exact propext ⟨fun _ => by omega, fun _ => by omega⟩) | (simp only [Nat.mod_one]; done) | skip
theorem ef_rm_emp4 (a : Addr) (b : Addr) (y : Value) (z : Int32) (m : MethodId) : entryFrame m #[(.ref a), (.ref b), (.int (0 : Int32)), (.int (0 : Int32)), .null] 6 = mkF m 0 #[.val (.ref a), .val (.ref b), .val (.int (0 : Int32)), .val (.int (0 : Int32)), .val .null, .unset] [] := by first | (simp [entryFrame, mkF, argsToLocals, Value.category, maxLocals]; done) | rfl
theorem pn_java_lang_String__init____CIILjava_lang_Void__V : plainFor (⟨"java/lang/String", "<init>", "([CIILjava/lang/Void;)V"⟩ : MethodName) = true := by first | exact plainFor_of_name (by first | (simp [plainName, overriddenIn]; done) | decide +kernel) | decide +kernel
theorem d3_0 : decode jdk_42_method_149_code 0 = .ok (.aload_n 0, 1) := by decide +kernel
theorem d3_1 : decode jdk_42_method_149_code 1 = .ok (.invokespecial 1, 3) := by decide +kernel
theorem d3_4 : decode jdk_42_method_149_code 4 = .ok (.iload_n 3, 1) := by decide +kernel
theorem d3_5 : decode jdk_42_method_149_code 5 = .ok (.ifCond .ne 22, 3) := by decide +kernel
theorem d3_8 : decode jdk_42_method_149_code 8 = .ok (.aload_n 0, 1) := by decide +kernel
theorem d3_9 : decode jdk_42_method_149_code 9 = .ok (.ldc 7, 2) := by decide +kernel
theorem own_wS {Z : State} {a0 : Array Value} (hw : ∀ d ∈ tables_1, d.before a0 Z = true) : ∀ d ∈ Bundle.stringAtoms, d.before a0 Z = true := fun d hd => hw d ((by decide +kernel : ∀ d ∈ Bundle.stringAtoms, d ∈ tables_1) d hd)
theorem d3_11 : decode jdk_42_method_149_code 11 = .ok (.getfield 9, 3) := by decide +kernel
theorem d3_14 : decode jdk_42_method_149_code 14 = .ok (.putfield 9, 3) := by decide +kernel
theorem d3_17 : decode jdk_42_method_149_code 17 = .ok (.aload_n 0, 1) := by decide +kernel
theorem d3_18 : decode jdk_42_method_149_code 18 = .ok (.ldc 7, 2) := by decide +kernel
theorem d3_20 : decode jdk_42_method_149_code 20 = .ok (.getfield 15, 3) := by decide +kernel
theorem d3_23 : decode jdk_42_method_149_code 23 = .ok (.putfield 15, 3) := by decide +kernel
theorem d3_26 : decode jdk_42_method_149_code 26 = .ok (.return_, 1) := by decide +kernel
theorem ef_rm_emp1 (a : Addr) (b : Addr) (y : Value) (z : Int32) (kb : ClassId) (m : MethodId) : entryFrame m #[(.ref a), (.ref b)] 2 = mkF m 0 #[.val (.ref a), .val (.ref b)] [] := by first | (simp [entryFrame, mkF, argsToLocals, Value.category, maxLocals]; done) | rfl
theorem pn_java_lang_String__init____C_V : plainFor (⟨"java/lang/String", "<init>", "([C)V"⟩ : MethodName) = true := by first | exact plainFor_of_name (by first | (simp [plainName, overriddenIn]; done) | decide +kernel) | decide +kernel
theorem d2_0 : decode jdk_42_method_3_code 0 = .ok (.aload_n 0, 1) := by decide +kernel
theorem d2_1 : decode jdk_42_method_3_code 1 = .ok (.aload_n 1, 1) := by decide +kernel
theorem d2_2 : decode jdk_42_method_3_code 2 = .ok (.iconst 0, 1) := by decide +kernel
theorem d2_3 : decode jdk_42_method_3_code 3 = .ok (.aload_n 1, 1) := by decide +kernel
theorem d2_4 : decode jdk_42_method_3_code 4 = .ok (.arraylength, 1) := by decide +kernel
theorem d2_5 : decode jdk_42_method_3_code 5 = .ok (.aconst_null, 1) := by decide +kernel
theorem d2_6 : decode jdk_42_method_3_code 6 = .ok (.invokespecial 27, 3) := by decide +kernel
theorem pd__28_5bCIILjava_2flang_2fVoid_3b_29V : parseMethodDescriptor "([CIILjava/lang/Void;)V" = some ⟨[(.array .char), .int, .int, (.object "java/lang/Void")], none⟩ := by decide +kernel
theorem d2_9 : decode jdk_42_method_3_code 9 = .ok (.return_, 1) := by decide +kernel
theorem ef_rm_canE (x : Int32) (m : MethodId) : entryFrame m #[(.int x)] 1 = mkF m 0 #[.val (.int x)] [] := by first | (simp [entryFrame, mkF, argsToLocals, Value.category, maxLocals]; done) | rfl
theorem pn_java_lang_StringLatin1_canEncode__C_Z : plainFor (⟨"java/lang/StringLatin1", "canEncode", "(C)Z"⟩ : MethodName) = true := by first | exact plainFor_of_name (by first | (simp [plainName, overriddenIn]; done) | decide +kernel) | decide +kernel
theorem d9_0 : decode jdk_43_method_3_code 0 = .ok (.iload_n 0, 1) := by decide +kernel
theorem d9_1 : decode jdk_43_method_3_code 1 = .ok (.sipush 255, 3) := by decide +kernel
theorem d9_4 : decode jdk_43_method_3_code 4 = .ok (.if_icmp .gt 7, 3) := by decide +kernel
theorem d9_7 : decode jdk_43_method_3_code 7 = .ok (.iconst 1, 1) := by decide +kernel
theorem d9_8 : decode jdk_43_method_3_code 8 = .ok (.goto 4, 3) := by decide +kernel
theorem d9_12 : decode jdk_43_method_3_code 12 = .ok (.ireturn, 1) := by decide +kernel
theorem ef_rm_toB (x : Int32) (m : MethodId) : entryFrame m #[(.int x)] 1 = mkF m 0 #[.val (.int x)] [] := by first | (simp [entryFrame, mkF, argsToLocals, Value.category, maxLocals]; done) | rfl
theorem pn_java_lang_StringLatin1_toBytes__C__B : plainFor (⟨"java/lang/StringLatin1", "toBytes", "(C)[B"⟩ : MethodName) = true := by first | exact plainFor_of_name (by first | (simp [plainName, overriddenIn]; done) | decide +kernel) | decide +kernel
theorem d10_0 : decode jdk_43_method_46_code 0 = .ok (.iconst 1, 1) := by decide +kernel
theorem d10_1 : decode jdk_43_method_46_code 1 = .ok (.newarray .byte, 2) := by decide +kernel
theorem d10_3 : decode jdk_43_method_46_code 3 = .ok (.dup, 1) := by decide +kernel
theorem d10_4 : decode jdk_43_method_46_code 4 = .ok (.iconst 0, 1) := by decide +kernel
theorem d10_5 : decode jdk_43_method_46_code 5 = .ok (.iload_n 0, 1) := by decide +kernel
theorem d10_6 : decode jdk_43_method_46_code 6 = .ok (.i2b, 1) := by decide +kernel
theorem d10_7 : decode jdk_43_method_46_code 7 = .ok (.bastore, 1) := by decide +kernel
theorem d10_8 : decode jdk_43_method_46_code 8 = .ok (.areturn, 1) := by decide +kernel
theorem ef_rm_newB (a : Addr) (b : Addr) (y : Value) (z : Int32) (m : MethodId) : entryFrame m #[(.ref a), (.ref b), (.int (0 : Int32))] 3 = mkF m 0 #[.val (.ref a), .val (.ref b), .val (.int (0 : Int32))] [] := by first | (simp [entryFrame, mkF, argsToLocals, Value.category, maxLocals]; done) | rfl
theorem pn_java_lang_String__init____BB_V : plainFor (⟨"java/lang/String", "<init>", "([BB)V"⟩ : MethodName) = true := by first | exact plainFor_of_name (by first | (simp [plainName, overriddenIn]; done) | decide +kernel) | decide +kernel
theorem d11_0 : decode jdk_42_method_151_code 0 = .ok (.aload_n 0, 1) := by decide +kernel
theorem d11_1 : decode jdk_42_method_151_code 1 = .ok (.invokespecial 1, 3) := by decide +kernel
theorem d11_4 : decode jdk_42_method_151_code 4 = .ok (.aload_n 0, 1) := by decide +kernel
theorem d11_5 : decode jdk_42_method_151_code 5 = .ok (.aload_n 1, 1) := by decide +kernel
theorem d11_6 : decode jdk_42_method_151_code 6 = .ok (.putfield 9, 3) := by decide +kernel
theorem d11_9 : decode jdk_42_method_151_code 9 = .ok (.aload_n 0, 1) := by decide +kernel
theorem d11_10 : decode jdk_42_method_151_code 10 = .ok (.iload_n 2, 1) := by decide +kernel
theorem d11_11 : decode jdk_42_method_151_code 11 = .ok (.putfield 15, 3) := by decide +kernel
theorem d11_14 : decode jdk_42_method_151_code 14 = .ok (.return_, 1) := by decide +kernel
theorem ef_rm_valC (x : Int32) (m : MethodId) : entryFrame m #[(.int x)] 1 = mkF m 0 #[.val (.int x)] [] := by first | (simp [entryFrame, mkF, argsToLocals, Value.category, maxLocals]; done) | rfl
theorem pn_java_lang_String_valueOf__C_Ljava_lang_String_ : plainFor (⟨"java/lang/String", "valueOf", "(C)Ljava/lang/String;"⟩ : MethodName) = true := by first | exact plainFor_of_name (by first | (simp [plainName, overriddenIn]; done) | decide +kernel) | decide +kernel
theorem d8_0 : decode jdk_42_method_139_code 0 = .ok (.getstatic 38, 3) := by decide +kernel
theorem d8_3 : decode jdk_42_method_139_code 3 = .ok (.ifCond .eq 23, 3) := by decide +kernel
theorem d8_6 : decode jdk_42_method_139_code 6 = .ok (.iload_n 0, 1) := by decide +kernel
theorem d8_7 : decode jdk_42_method_139_code 7 = .ok (.invokestatic 1015, 3) := by decide +kernel
theorem pd__28C_29Z : parseMethodDescriptor "(C)Z" = some ⟨[.char], some .boolean⟩ := by decide +kernel
theorem d8_10 : decode jdk_42_method_139_code 10 = .ok (.ifCond .eq 16, 3) := by decide +kernel
theorem d8_13 : decode jdk_42_method_139_code 13 = .ok (.new 10, 3) := by decide +kernel
theorem d8_16 : decode jdk_42_method_139_code 16 = .ok (.dup, 1) := by decide +kernel
theorem d8_17 : decode jdk_42_method_139_code 17 = .ok (.iload_n 0, 1) := by decide +kernel
theorem d8_18 : decode jdk_42_method_139_code 18 = .ok (.invokestatic 1018, 3) := by decide +kernel
theorem pd__28C_29_5bB : parseMethodDescriptor "(C)[B" = some ⟨[.char], some (.array .byte)⟩ := by decide +kernel
theorem d8_21 : decode jdk_42_method_139_code 21 = .ok (.iconst 0, 1) := by decide +kernel
theorem d8_22 : decode jdk_42_method_139_code 22 = .ok (.invokespecial 209, 3) := by decide +kernel
theorem pd__28_5bBB_29V : parseMethodDescriptor "([BB)V" = some ⟨[(.array .byte), .byte], none⟩ := by decide +kernel
theorem d8_25 : decode jdk_42_method_139_code 25 = .ok (.areturn, 1) := by decide +kernel
theorem ef_rm1 (x : Int32) (m : MethodId) : entryFrame m #[(.int x)] 5 = mkF m 0 #[.val (.int x), .unset, .unset, .unset, .unset] [] := by first | (simp [entryFrame, mkF, argsToLocals, Value.category, maxLocals]; done) | rfl
theorem pn_com_example_chitragupta_chitragupta_model_HelpdeskSiteEqualsPinLaw_str__I_Ljava_lang_String_ : plainFor (⟨"com/example/chitragupta/chitragupta/model/HelpdeskSiteEqualsPinLaw", "str", "(I)Ljava/lang/String;"⟩ : MethodName) = true := by first | exact plainFor_of_name (by first | (simp [plainName, overriddenIn]; done) | decide +kernel) | decide +kernel
theorem d1_0 : decode method_2_code 0 = .ok (.iload_n 0, 1) := by decide +kernel
theorem d1_1 : decode method_2_code 1 = .ok (.iconst 3, 1) := by decide +kernel
theorem d1_2 : decode method_2_code 2 = .ok (.iand, 1) := by decide +kernel
theorem d1_3 : decode method_2_code 3 = .ok (.istore_n 1, 1) := by decide +kernel
theorem d1_4 : decode method_2_code 4 = .ok (.iload_n 0, 1) := by decide +kernel
theorem d1_5 : decode method_2_code 5 = .ok (.iconst 2, 1) := by decide +kernel
theorem d1_6 : decode method_2_code 6 = .ok (.iushr, 1) := by decide +kernel
theorem d1_7 : decode method_2_code 7 = .ok (.sipush 255, 3) := by decide +kernel
theorem d1_10 : decode method_2_code 10 = .ok (.iand, 1) := by decide +kernel
theorem d1_11 : decode method_2_code 11 = .ok (.i2c, 1) := by decide +kernel
theorem d1_12 : decode method_2_code 12 = .ok (.istore_n 2, 1) := by decide +kernel
theorem d1_13 : decode method_2_code 13 = .ok (.iload_n 0, 1) := by decide +kernel
theorem d1_14 : decode method_2_code 14 = .ok (.bipush 10, 2) := by decide +kernel
theorem d1_16 : decode method_2_code 16 = .ok (.iushr, 1) := by decide +kernel
theorem d1_17 : decode method_2_code 17 = .ok (.sipush 255, 3) := by decide +kernel
theorem d1_20 : decode method_2_code 20 = .ok (.iand, 1) := by decide +kernel
theorem d1_21 : decode method_2_code 21 = .ok (.i2c, 1) := by decide +kernel
theorem d1_22 : decode method_2_code 22 = .ok (.istore_n 3, 1) := by decide +kernel
theorem d1_23 : decode method_2_code 23 = .ok (.iload_n 0, 1) := by decide +kernel
theorem d1_24 : decode method_2_code 24 = .ok (.bipush 18, 2) := by decide +kernel
theorem d1_26 : decode method_2_code 26 = .ok (.iushr, 1) := by decide +kernel
theorem d1_27 : decode method_2_code 27 = .ok (.sipush 255, 3) := by decide +kernel
theorem d1_30 : decode method_2_code 30 = .ok (.iand, 1) := by decide +kernel
theorem d1_31 : decode method_2_code 31 = .ok (.i2c, 1) := by decide +kernel
theorem d1_32 : decode method_2_code 32 = .ok (.istore 4, 2) := by decide +kernel
theorem d1_34 : decode method_2_code 34 = .ok (.iload_n 1, 1) := by decide +kernel
theorem d1_35 : decode method_2_code 35 = .ok (.ifCond .ne 14, 3) := by decide +kernel
theorem d1_38 : decode method_2_code 38 = .ok (.new 7, 3) := by decide +kernel
theorem d1_41 : decode method_2_code 41 = .ok (.dup, 1) := by decide +kernel
theorem d1_42 : decode method_2_code 42 = .ok (.iconst 0, 1) := by decide +kernel
theorem d1_43 : decode method_2_code 43 = .ok (.newarray .char, 2) := by decide +kernel
theorem d1_45 : decode method_2_code 45 = .ok (.invokespecial 9, 3) := by decide +kernel
theorem pd__28_5bC_29V : parseMethodDescriptor "([C)V" = some ⟨[(.array .char)], none⟩ := by decide +kernel
theorem d1_48 : decode method_2_code 48 = .ok (.areturn, 1) := by decide +kernel
theorem d1_49 : decode method_2_code 49 = .ok (.iload_n 1, 1) := by decide +kernel
theorem d1_50 : decode method_2_code 50 = .ok (.iconst 1, 1) := by decide +kernel
theorem d1_51 : decode method_2_code 51 = .ok (.if_icmp .ne 8, 3) := by decide +kernel
theorem d1_54 : decode method_2_code 54 = .ok (.iload_n 2, 1) := by decide +kernel
theorem d1_55 : decode method_2_code 55 = .ok (.invokestatic 12, 3) := by decide +kernel
theorem pd__28C_29Ljava_2flang_2fString_3b : parseMethodDescriptor "(C)Ljava/lang/String;" = some ⟨[.char], some (.object "java/lang/String")⟩ := by decide +kernel
theorem d1_58 : decode method_2_code 58 = .ok (.areturn, 1) := by decide +kernel
theorem d1_59 : decode method_2_code 59 = .ok (.iload_n 1, 1) := by decide +kernel
theorem d1_60 : decode method_2_code 60 = .ok (.iconst 2, 1) := by decide +kernel
theorem d1_61 : decode method_2_code 61 = .ok (.if_icmp .ne 22, 3) := by decide +kernel
theorem d1_64 : decode method_2_code 64 = .ok (.new 7, 3) := by decide +kernel
theorem d1_67 : decode method_2_code 67 = .ok (.dup, 1) := by decide +kernel
theorem d1_68 : decode method_2_code 68 = .ok (.iconst 2, 1) := by decide +kernel
theorem d1_69 : decode method_2_code 69 = .ok (.newarray .char, 2) := by decide +kernel
theorem d1_71 : decode method_2_code 71 = .ok (.dup, 1) := by decide +kernel
theorem d1_72 : decode method_2_code 72 = .ok (.iconst 0, 1) := by decide +kernel
theorem d1_73 : decode method_2_code 73 = .ok (.iload_n 2, 1) := by decide +kernel
theorem d1_74 : decode method_2_code 74 = .ok (.castore, 1) := by decide +kernel
theorem d1_75 : decode method_2_code 75 = .ok (.dup, 1) := by decide +kernel
theorem d1_76 : decode method_2_code 76 = .ok (.iconst 1, 1) := by decide +kernel
theorem d1_77 : decode method_2_code 77 = .ok (.iload_n 3, 1) := by decide +kernel
theorem d1_78 : decode method_2_code 78 = .ok (.castore, 1) := by decide +kernel
theorem d1_79 : decode method_2_code 79 = .ok (.invokespecial 9, 3) := by decide +kernel
theorem own_wV {Z : State} {a0 : Array Value} (hw : ∀ d ∈ tables_1, d.before a0 Z = true) : ∀ d ∈ StrChars.Road.words, d.before a0 Z = true := fun d hd => hw d ((by decide +kernel : ∀ d ∈ StrChars.Road.words, d ∈ tables_1) d hd)
theorem d1_82 : decode method_2_code 82 = .ok (.areturn, 1) := by decide +kernel
theorem d1_83 : decode method_2_code 83 = .ok (.new 7, 3) := by decide +kernel
theorem d1_86 : decode method_2_code 86 = .ok (.dup, 1) := by decide +kernel
theorem d1_87 : decode method_2_code 87 = .ok (.iconst 3, 1) := by decide +kernel
theorem d1_88 : decode method_2_code 88 = .ok (.newarray .char, 2) := by decide +kernel
theorem d1_90 : decode method_2_code 90 = .ok (.dup, 1) := by decide +kernel
theorem d1_91 : decode method_2_code 91 = .ok (.iconst 0, 1) := by decide +kernel
theorem d1_92 : decode method_2_code 92 = .ok (.iload_n 2, 1) := by decide +kernel
theorem d1_93 : decode method_2_code 93 = .ok (.castore, 1) := by decide +kernel
theorem d1_94 : decode method_2_code 94 = .ok (.dup, 1) := by decide +kernel
theorem d1_95 : decode method_2_code 95 = .ok (.iconst 1, 1) := by decide +kernel
theorem d1_96 : decode method_2_code 96 = .ok (.iload_n 3, 1) := by decide +kernel
theorem d1_97 : decode method_2_code 97 = .ok (.castore, 1) := by decide +kernel
theorem d1_98 : decode method_2_code 98 = .ok (.dup, 1) := by decide +kernel
theorem d1_99 : decode method_2_code 99 = .ok (.iconst 2, 1) := by decide +kernel
theorem d1_100 : decode method_2_code 100 = .ok (.iload 4, 2) := by decide +kernel
theorem d1_102 : decode method_2_code 102 = .ok (.castore, 1) := by decide +kernel
theorem d1_103 : decode method_2_code 103 = .ok (.invokespecial 9, 3) := by decide +kernel
theorem d1_106 : decode method_2_code 106 = .ok (.areturn, 1) := by decide +kernel
theorem ef_rm12 (x : Int32) (y : Int32) (m : MethodId) : entryFrame m #[(.int x), (.int y)] 5 = mkF m 0 #[.val (.int x), .val (.int y), .unset, .unset, .unset] [] := by first | (simp [entryFrame, mkF, argsToLocals, Value.category, maxLocals]; done) | rfl
theorem pn_com_example_chitragupta_chitragupta_model_HelpdeskSiteEqualsPinLaw_sameStr__II_Z : plainFor (⟨"com/example/chitragupta/chitragupta/model/HelpdeskSiteEqualsPinLaw", "sameStr", "(II)Z"⟩ : MethodName) = true := by first | exact plainFor_of_name (by first | (simp [plainName, overriddenIn]; done) | decide +kernel) | decide +kernel
theorem d12_0 : decode method_3_code 0 = .ok (.iload_n 0, 1) := by decide +kernel
theorem d12_1 : decode method_3_code 1 = .ok (.iconst 3, 1) := by decide +kernel
theorem d12_2 : decode method_3_code 2 = .ok (.iand, 1) := by decide +kernel
theorem d12_3 : decode method_3_code 3 = .ok (.istore_n 2, 1) := by decide +kernel
theorem d12_4 : decode method_3_code 4 = .ok (.iload_n 1, 1) := by decide +kernel
theorem d12_5 : decode method_3_code 5 = .ok (.iconst 3, 1) := by decide +kernel
theorem d12_6 : decode method_3_code 6 = .ok (.iand, 1) := by decide +kernel
theorem d12_7 : decode method_3_code 7 = .ok (.istore_n 3, 1) := by decide +kernel
theorem d12_8 : decode method_3_code 8 = .ok (.iload_n 2, 1) := by decide +kernel
theorem d12_9 : decode method_3_code 9 = .ok (.iload_n 3, 1) := by decide +kernel
theorem d12_10 : decode method_3_code 10 = .ok (.if_icmp .eq 5, 3) := by decide +kernel
theorem d12_15 : decode method_3_code 15 = .ok (.iload_n 2, 1) := by decide +kernel
theorem d12_16 : decode method_3_code 16 = .ok (.ifCond .ne 9, 3) := by decide +kernel
theorem d12_19 : decode method_3_code 19 = .ok (.iconst 0, 1) := by decide +kernel
theorem d12_20 : decode method_3_code 20 = .ok (.istore 4, 2) := by decide +kernel
theorem d12_22 : decode method_3_code 22 = .ok (.goto 32, 3) := by decide +kernel
theorem d12_54 : decode method_3_code 54 = .ok (.iload_n 0, 1) := by decide +kernel
theorem d12_55 : decode method_3_code 55 = .ok (.iload_n 1, 1) := by decide +kernel
theorem d12_56 : decode method_3_code 56 = .ok (.ixor, 1) := by decide +kernel
theorem d12_57 : decode method_3_code 57 = .ok (.iconst 2, 1) := by decide +kernel
theorem d12_58 : decode method_3_code 58 = .ok (.iushr, 1) := by decide +kernel
theorem d12_59 : decode method_3_code 59 = .ok (.iload 4, 2) := by decide +kernel
theorem d12_61 : decode method_3_code 61 = .ok (.iand, 1) := by decide +kernel
theorem d12_62 : decode method_3_code 62 = .ok (.ifCond .ne 7, 3) := by decide +kernel
theorem d12_65 : decode method_3_code 65 = .ok (.iconst 1, 1) := by decide +kernel
theorem d12_66 : decode method_3_code 66 = .ok (.goto 4, 3) := by decide +kernel
theorem d12_70 : decode method_3_code 70 = .ok (.ireturn, 1) := by decide +kernel
theorem d12_69 : decode method_3_code 69 = .ok (.iconst 0, 1) := by decide +kernel
theorem d12_25 : decode method_3_code 25 = .ok (.iload_n 2, 1) := by decide +kernel
theorem d12_26 : decode method_3_code 26 = .ok (.iconst 1, 1) := by decide +kernel
theorem d12_27 : decode method_3_code 27 = .ok (.if_icmp .ne 11, 3) := by decide +kernel
theorem d12_30 : decode method_3_code 30 = .ok (.sipush 255, 3) := by decide +kernel
theorem d12_33 : decode method_3_code 33 = .ok (.istore 4, 2) := by decide +kernel
theorem d12_35 : decode method_3_code 35 = .ok (.goto 19, 3) := by decide +kernel
theorem d12_38 : decode method_3_code 38 = .ok (.iload_n 2, 1) := by decide +kernel
theorem d12_39 : decode method_3_code 39 = .ok (.iconst 2, 1) := by decide +kernel
theorem d12_40 : decode method_3_code 40 = .ok (.if_icmp .ne 10, 3) := by decide +kernel
theorem d12_43 : decode method_3_code 43 = .ok (.ldc 16, 2) := by decide +kernel
theorem d12_45 : decode method_3_code 45 = .ok (.istore 4, 2) := by decide +kernel
theorem d12_47 : decode method_3_code 47 = .ok (.goto 7, 3) := by decide +kernel
theorem d12_50 : decode method_3_code 50 = .ok (.ldc 17, 2) := by decide +kernel
theorem d12_52 : decode method_3_code 52 = .ok (.istore 4, 2) := by decide +kernel
theorem d12_13 : decode method_3_code 13 = .ok (.iconst 0, 1) := by decide +kernel
theorem d12_14 : decode method_3_code 14 = .ok (.ireturn, 1) := by decide +kernel
theorem ef_rm14 (a : Addr) (m : MethodId) : entryFrame m #[(.ref a)] 1 = mkF m 0 #[.val (.ref a)] [] := by first | (simp [entryFrame, mkF, argsToLocals, Value.category, maxLocals]; done) | rfl
theorem pn_java_util_Objects_requireNonNull__Ljava_lang_Object__Ljava_lang_Object_ : plainFor (⟨"java/util/Objects", "requireNonNull", "(Ljava/lang/Object;)Ljava/lang/Object;"⟩ : MethodName) = true := by first | exact plainFor_of_name (by first | (simp [plainName, overriddenIn]; done) | decide +kernel) | decide +kernel
theorem d14_0 : decode jdk_31_method_10_code 0 = .ok (.aload_n 0, 1) := by decide +kernel
theorem d14_1 : decode jdk_31_method_10_code 1 = .ok (.ifnonnull 11, 3) := by decide +kernel
theorem d14_12 : decode jdk_31_method_10_code 12 = .ok (.aload_n 0, 1) := by decide +kernel
theorem d14_13 : decode jdk_31_method_10_code 13 = .ok (.areturn, 1) := by decide +kernel
theorem ef_rm13 (a : Addr) (u : Addr) (v : Addr) (m : MethodId) : entryFrame m #[(.ref a), (.ref u), (.ref v)] 3 = mkF m 0 #[.val (.ref a), .val (.ref u), .val (.ref v)] [] := by first | (simp [entryFrame, mkF, argsToLocals, Value.category, maxLocals]; done) | rfl
theorem pn_com_example_chitragupta_chitragupta_model_HelpdeskSite__init___Ljava_lang_String_Ljava_lang_String__V : plainFor (⟨"com/example/chitragupta/chitragupta/model/HelpdeskSite", "<init>", "(Ljava/lang/String;Ljava/lang/String;)V"⟩ : MethodName) = true := by first | exact plainFor_of_name (by first | (simp [plainName, overriddenIn]; done) | decide +kernel) | decide +kernel
theorem d13_0 : decode prog_26_method_1_code 0 = .ok (.aload_n 0, 1) := by decide +kernel
theorem d13_1 : decode prog_26_method_1_code 1 = .ok (.invokespecial 1, 3) := by decide +kernel
theorem d13_4 : decode prog_26_method_1_code 4 = .ok (.aload_n 0, 1) := by decide +kernel
theorem d13_5 : decode prog_26_method_1_code 5 = .ok (.aload_n 1, 1) := by decide +kernel
theorem d13_6 : decode prog_26_method_1_code 6 = .ok (.invokestatic 7, 3) := by decide +kernel
theorem pd__28Ljava_2flang_2fObject_3b_29Ljava_2flang_2fObject_3b : parseMethodDescriptor "(Ljava/lang/Object;)Ljava/lang/Object;" = some ⟨[(.object "java/lang/Object")], some (.object "java/lang/Object")⟩ := by decide +kernel
theorem d13_9 : decode prog_26_method_1_code 9 = .ok (.checkcast 13, 3) := by decide +kernel
theorem d13_12 : decode prog_26_method_1_code 12 = .ok (.putfield 15, 3) := by decide +kernel
theorem d13_15 : decode prog_26_method_1_code 15 = .ok (.aload_n 0, 1) := by decide +kernel
theorem d13_16 : decode prog_26_method_1_code 16 = .ok (.aload_n 2, 1) := by decide +kernel
theorem d13_17 : decode prog_26_method_1_code 17 = .ok (.invokestatic 7, 3) := by decide +kernel
theorem d13_20 : decode prog_26_method_1_code 20 = .ok (.checkcast 13, 3) := by decide +kernel
theorem d13_23 : decode prog_26_method_1_code 23 = .ok (.putfield 21, 3) := by decide +kernel
theorem d13_26 : decode prog_26_method_1_code 26 = .ok (.return_, 1) := by decide +kernel
theorem ef_rm_eqN (a : Addr) (m : MethodId) : entryFrame m #[(.ref a), .null] 3 = mkF m 0 #[.val (.ref a), .val .null, .unset] [] := by first | (simp [entryFrame, mkF, argsToLocals, Value.category, maxLocals]; done) | rfl
theorem pn_com_example_chitragupta_chitragupta_model_HelpdeskSite_equals__Ljava_lang_Object__Z : plainFor (⟨"com/example/chitragupta/chitragupta/model/HelpdeskSite", "equals", "(Ljava/lang/Object;)Z"⟩ : MethodName) = true := by first | exact plainFor_of_name (by first | (simp [plainName, overriddenIn]; done) | decide +kernel) | decide +kernel
theorem d15_0 : decode prog_26_method_4_code 0 = .ok (.aload_n 1, 1) := by decide +kernel
theorem d15_1 : decode prog_26_method_4_code 1 = .ok (.instanceof 16, 3) := by decide +kernel
theorem d15_4 : decode prog_26_method_4_code 4 = .ok (.ifCond .eq 40, 3) := by decide +kernel
theorem d15_44 : decode prog_26_method_4_code 44 = .ok (.iconst 0, 1) := by decide +kernel
theorem d15_45 : decode prog_26_method_4_code 45 = .ok (.ireturn, 1) := by decide +kernel
theorem ef_rm_eqS (a : Addr) (b : Addr) (m : MethodId) : entryFrame m #[(.ref a), (.ref b)] 3 = mkF m 0 #[.val (.ref a), .val (.ref b), .unset] [] := by first | (simp [entryFrame, mkF, argsToLocals, Value.category, maxLocals]; done) | rfl
theorem ef_rm_eqK (a : Addr) (b : Addr) (u : Addr) (v : Addr) (u2 : Addr) (v2 : Addr) (cu : List Int32) (cv : List Int32) (du : List Int32) (dv : List Int32) (m : MethodId) : entryFrame m #[(.ref a), (.ref b)] 3 = mkF m 0 #[.val (.ref a), .val (.ref b), .unset] [] := by first | (simp [entryFrame, mkF, argsToLocals, Value.category, maxLocals]; done) | rfl
theorem d15_7 : decode prog_26_method_4_code 7 = .ok (.aload_n 1, 1) := by decide +kernel
theorem d15_8 : decode prog_26_method_4_code 8 = .ok (.checkcast 16, 3) := by decide +kernel
theorem d15_11 : decode prog_26_method_4_code 11 = .ok (.astore_n 2, 1) := by decide +kernel
theorem d15_12 : decode prog_26_method_4_code 12 = .ok (.aload_n 0, 1) := by decide +kernel
theorem d15_13 : decode prog_26_method_4_code 13 = .ok (.getfield 15, 3) := by decide +kernel
theorem d15_16 : decode prog_26_method_4_code 16 = .ok (.aload_n 2, 1) := by decide +kernel
theorem d15_17 : decode prog_26_method_4_code 17 = .ok (.getfield 15, 3) := by decide +kernel
theorem d15_20 : decode prog_26_method_4_code 20 = .ok (.invokevirtual 24, 3) := by decide +kernel
theorem own_wE {Z : State} {a0 : Array Value} (hw : ∀ d ∈ tables_1, d.before a0 Z = true) : ∀ d ∈ StrChars.Road.wordsEq, d.before a0 Z = true := fun d hd => hw d ((by decide +kernel : ∀ d ∈ StrChars.Road.wordsEq, d ∈ tables_1) d hd)
theorem d15_23 : decode prog_26_method_4_code 23 = .ok (.ifCond .eq 21, 3) := by decide +kernel
theorem d15_26 : decode prog_26_method_4_code 26 = .ok (.aload_n 0, 1) := by decide +kernel
theorem d15_27 : decode prog_26_method_4_code 27 = .ok (.getfield 21, 3) := by decide +kernel
theorem d15_30 : decode prog_26_method_4_code 30 = .ok (.aload_n 2, 1) := by decide +kernel
theorem d15_31 : decode prog_26_method_4_code 31 = .ok (.getfield 21, 3) := by decide +kernel
theorem d15_34 : decode prog_26_method_4_code 34 = .ok (.invokevirtual 24, 3) := by decide +kernel
theorem d15_37 : decode prog_26_method_4_code 37 = .ok (.ifCond .eq 7, 3) := by decide +kernel
theorem d15_40 : decode prog_26_method_4_code 40 = .ok (.iconst 1, 1) := by decide +kernel
theorem d15_41 : decode prog_26_method_4_code 41 = .ok (.goto 4, 3) := by decide +kernel
theorem ef_rm0 (k1 : Int32) (u1 : Int32) (k2 : Int32) (u2 : Int32) (pm : Int32) (m : MethodId) : entryFrame m #[(.int k1), (.int u1), (.int k2), (.int u2), (.int pm)] maxLocals = mkF m 0 #[.val (.int k1), .val (.int u1), .val (.int k2), .val (.int u2), .val (.int pm), .unset, .unset, .unset, .unset, .unset, .unset, .unset, .unset, .unset, .unset, .unset, .unset, .unset, .unset] [] := by first | (simp [entryFrame, mkF, argsToLocals, Value.category, maxLocals]; done) | rfl
theorem pn_com_example_chitragupta_chitragupta_model_HelpdeskSiteEqualsPinLaw_law__IIIII_Z : plainFor (⟨"com/example/chitragupta/chitragupta/model/HelpdeskSiteEqualsPinLaw", "law", "(IIIII)Z"⟩ : MethodName) = true := by first | exact plainFor_of_name (by first | (simp [plainName, overriddenIn]; done) | decide +kernel) | decide +kernel
theorem pd__28I_29Ljava_2flang_2fString_3b : parseMethodDescriptor "(I)Ljava/lang/String;" = some ⟨[.int], some (.object "java/lang/String")⟩ := by decide +kernel
theorem pd__28II_29Z : parseMethodDescriptor "(II)Z" = some ⟨[.int, .int], some .boolean⟩ := by decide +kernel
theorem pd__28Ljava_2flang_2fString_3bLjava_2flang_2fString_3b_29V : parseMethodDescriptor "(Ljava/lang/String;Ljava/lang/String;)V" = some ⟨[(.object "java/lang/String"), (.object "java/lang/String")], none⟩ := by decide +kernel
theorem pd__28Ljava_2flang_2fObject_3b_29Z : parseMethodDescriptor "(Ljava/lang/Object;)Z" = some ⟨[(.object "java/lang/Object")], some .boolean⟩ := by decide +kernel
set_option maxRecDepth 65536 in
set_option maxHeartbeats 40000000 in
theorem rm_emp4 (l : Launch) (Z : State) (a0 : Array Value) (hw : ∀ d ∈ tables_1, d.before a0 Z = true) (n0 : Nat) (h0 : Heap) (hWd : OWorld Z a0) (wc : List Jvm.Cond) (O0 : Old Z n0 h0) (a : Addr) (b : Addr) (y : Value) (z : Int32) (q0 : Exa Z h0 a "java/lang/String") (q1 : Fld Z h0 a "java/lang/String" "value" "[B" y) (q2 : Fld Z h0 a "java/lang/String" "coder" "B" (.int z)) (g0 : n0 ≤ a ∧ a < h0.size) :
    OMet l Z own_EL n0 (⟨"java/lang/String", "<init>", "([CIILjava/lang/Void;)V"⟩ : MethodName) (Jvm.Cond.code (⟨"java/lang/String", "<init>", "([CIILjava/lang/Void;)V"⟩ : MethodName) jdk_42_method_149_code 6 none :: wc) ({ frames := 1, cells := 4, slots := 8, locals := 12 } : Room) #[(.ref a), (.ref b), (.int (0 : Int32)), (.int (0 : Int32)), .null] h0 [a] (fun vq hq => vq = none ∧ OStr Z hq a [] hq.size) := by
  refine own_enter #[.val (.ref a), .val (.ref b), .val (.int (0 : Int32)), .val (.int (0 : Int32)), .val .null, .unset] pn_java_lang_String__init____CIILjava_lang_Void__V (ef_rm_emp4 a b y z) hWd.1 O0 (allS g0 all0) ?_
  intro p e s m below meth c T0 X0 hnm hret
  refine og_aloadN X0 1 d3_0 rfl rfl rfl ?_
  refine own_obj0 X0 4 (a := a) d3_1 (hw _ (List.mem_of_getElem? (i := 15) rfl)) (hw _ (List.mem_of_getElem? (i := 16) rfl)) (hw _ (List.mem_of_getElem? (i := 17) rfl)) rfl (W := 0) rfl (by decide) (by decide) rfl ?_
  intro T1 X2
  refine og_iloadN X2 5 d3_4 rfl rfl ?_
  refine og_ifN X2 8 d3_5 (XT.i0_ne_f (by decide)) rfl ?_
  refine og_aloadN X2 9 d3_8 rfl rfl rfl ?_
  refine own_ldcR X2 11 (cap := 0) (vs := []) (z := (0 : Int32)) d3_9 (List.mem_of_getElem? (i := 0) rfl) (hw _ (List.mem_of_getElem? (i := 18) rfl)) (own_wS hw) ⟨by decide, rfl⟩ (by decide) rfl (by decide) (by decide) (by decide) (by decide) rfl ?_
  intro T3 h3 a3 b3 kb3 X3 K3 E3 C3 V3 A3 far3
  have f4 := own_mkStr (cs := []) (bs := []) (n := 0) E3 C3 V3 A3 rfl own_l0 rfl rfl (by decide)
  refine own_get X3 14 d3_11 (host := "") (Or.inl (hw _ (List.mem_of_getElem? (i := 24) rfl))) Via.refl V3 rfl ?_
  intro T5 X6
  have f7 := q1.keep K3 nin0
  have f8 := q0.keep K3
  have f9 := q2.keep K3 nin0
  refine own_put X6 17 d3_14 (host := "") (Or.inl (hw _ (List.mem_of_getElem? (i := 24) rfl))) Via.refl f7 f8 (Or.inr ⟨(hw _ (List.mem_of_getElem? (i := 20) rfl)), rfl, hnm⟩) (hw _ (List.mem_of_getElem? (i := 5) rfl)) (ty := (.array .byte)) (by decide) rfl rfl (List.mem_of_getElem? (i := 0) rfl) rfl ?_
  intro T10 h10 X10 W10 K10 F10
  have f11 := Fld.other W10 f9 (Or.inr (slot_ne (Or.inr (hw _ (List.mem_of_getElem? (i := 21) rfl))) (Or.inr (hw _ (List.mem_of_getElem? (i := 20) rfl))) (by decide) (t := .byte) (t' := (.array .byte)) (by decide) (by decide)))
  refine og_aloadN X10 18 d3_17 rfl rfl rfl ?_
  refine own_ldcR X10 20 (cap := 0) (vs := []) (z := (0 : Int32)) d3_18 (List.mem_of_getElem? (i := 0) rfl) (hw _ (List.mem_of_getElem? (i := 18) rfl)) (own_wS hw) ⟨by decide, rfl⟩ (by decide) rfl (by decide) (by decide) (by decide) (by decide) rfl ?_
  intro T12 h12 a12 b12 kb12 X12 K12 E12 C12 V12 A12 far12
  have f13 := own_mkStr (cs := []) (bs := []) (n := 0) E12 C12 V12 A12 rfl own_l0 rfl rfl (by decide)
  refine own_get X12 23 d3_20 (host := "") (Or.inl (hw _ (List.mem_of_getElem? (i := 25) rfl))) Via.refl C12 rfl ?_
  intro T14 X15
  have f16 := f11.keep K12 nin0
  have f17 := f8.keep K10
  have f18 := f17.keep K12
  have f19 := F10.keep K12 nin0
  refine own_put X15 26 d3_23 (host := "") (Or.inl (hw _ (List.mem_of_getElem? (i := 25) rfl))) Via.refl f16 f18 (Or.inr ⟨(hw _ (List.mem_of_getElem? (i := 21) rfl)), rfl, hnm⟩) (hw _ (List.mem_of_getElem? (i := 5) rfl)) (ty := .byte) (by decide) rfl rfl (List.mem_of_getElem? (i := 0) rfl) rfl ?_
  intro T20 h20 X20 W20 K20 F20
  have f21 := Fld.other W20 f19 (Or.inr (slot_ne (Or.inr (hw _ (List.mem_of_getElem? (i := 20) rfl))) (Or.inr (hw _ (List.mem_of_getElem? (i := 21) rfl))) (by decide) (t := (.array .byte)) (t' := .byte) (by decide) (by decide)))
  have f22 := f18.keep K20
  have f23 := A3.keep K10 (ninS (Ne.symm (far3 _ (List.mem_of_getElem? (i := 0) rfl)).2) nin0)
  have f24 := f23.keep K12 nin0
  have f25 := f24.keep K20 (ninS (Ne.symm (far3 _ (List.mem_of_getElem? (i := 0) rfl)).2) nin0)
  refine own_retV X20 d3_26 hret (by decide) (by decide) ?_
  exact ⟨rfl, own_mkStr (cs := []) (bs := []) (n := 0) f22 F20 f21 f25 rfl own_l0 rfl rfl (by decide)⟩
set_option maxRecDepth 65536 in
set_option maxHeartbeats 40000000 in
theorem rm_emp1 (l : Launch) (Z : State) (a0 : Array Value) (hw : ∀ d ∈ tables_1, d.before a0 Z = true) (n0 : Nat) (h0 : Heap) (hWd : OWorld Z a0) (wc : List Jvm.Cond) (O0 : Old Z n0 h0) (a : Addr) (b : Addr) (y : Value) (z : Int32) (kb : ClassId) (q0 : Exa Z h0 a "java/lang/String") (q1 : Fld Z h0 a "java/lang/String" "value" "[B" y) (q2 : Fld Z h0 a "java/lang/String" "coder" "B" (.int z)) (q3 : Arv Z h0 b kb .char (0 : Int32) [] (.int (0 : Int32))) (g0 : n0 ≤ a ∧ a < h0.size) :
    OMet l Z own_EL n0 (⟨"java/lang/String", "<init>", "([C)V"⟩ : MethodName) (Jvm.Cond.code (⟨"java/lang/String", "<init>", "([C)V"⟩ : MethodName) jdk_42_method_3_code 2 none :: wc) ({ frames := 2, cells := 4, slots := 8, locals := 29 } : Room) #[(.ref a), (.ref b)] h0 [a] (fun vq hq => vq = none ∧ OStr Z hq a [] hq.size) := by
  refine own_enter #[.val (.ref a), .val (.ref b)] pn_java_lang_String__init____C_V (ef_rm_emp1 a b y z kb) hWd.1 O0 (allS g0 all0) ?_
  intro p e s m below meth c T0 X0 hnm hret
  refine og_aloadN X0 1 d2_0 rfl rfl rfl ?_
  refine og_aloadN X0 2 d2_1 rfl rfl rfl ?_
  refine og_iconst X0 3 (0 : Int32) d2_2 rfl rfl ?_
  refine og_aloadN X0 4 d2_3 rfl rfl rfl ?_
  refine own_len X0 5 d2_4 q3 rfl ?_
  refine og_aconstNull X0 6 d2_5 rfl ?_
  refine own_spec X0 9 (a := a) (argsL := [(.ref b), (.int (0 : Int32)), (.int (0 : Int32)), .null]) (rest := []) d2_6 rfl (rm_emp4 l Z a0 hw n0 h0 hWd [] X0.old a b y z q0 q1 q2 (own_svb X0 (List.mem_of_getElem? (i := 0) rfl))) (hw _ (List.mem_of_getElem? (i := 11) rfl)) (hw _ (List.mem_of_getElem? (i := 12) rfl)) (hw _ (List.mem_of_getElem? (i := 6) rfl)) (hw _ (List.mem_of_getElem? (i := 14) rfl)) (by decide) (lenOf pd__28_5bCIILjava_2flang_2fVoid_3b_29V rfl) rfl rfl rfl (W := 0) rfl (by decide) (by decide) (by decide) (by decide) (allS (List.mem_of_getElem? (i := 0) rfl) all0) rfl ?_
  intro T1 h1 v1 X1 K1 hQ1
  obtain ⟨rfl, f2⟩ := hQ1
  show OGo _ _ _ _ T1 (mkF m 9 #[.val (.ref a), .val (.ref b)] [])
  refine own_retV X1 d2_9 hret (by decide) (by decide) ?_
  exact ⟨rfl, f2.top⟩
set_option maxRecDepth 65536 in
set_option maxHeartbeats 40000000 in
theorem rm_canE (l : Launch) (Z : State) (a0 : Array Value) (hw : ∀ d ∈ tables_1, d.before a0 Z = true) (n0 : Nat) (h0 : Heap) (hWd : OWorld Z a0) (wc : List Jvm.Cond) (O0 : Old Z n0 h0) (x : Int32) (q0 : ¬ x < 0) (q1 : ¬ (255 : Int32) < x) :
    OMet l Z own_EL n0 (⟨"java/lang/StringLatin1", "canEncode", "(C)Z"⟩ : MethodName) (Jvm.Cond.code (⟨"java/lang/StringLatin1", "canEncode", "(C)Z"⟩ : MethodName) jdk_43_method_3_code 1 (some .boolean) :: wc) ({ frames := 0, cells := 0, slots := 0, locals := 0 } : Room) #[(.int x)] h0 [] (fun vq hq => vq = some (.int (1 : Int32))) := by
  refine own_enter #[.val (.int x)] pn_java_lang_StringLatin1_canEncode__C_Z (ef_rm_canE x) hWd.1 O0 all0 ?_
  intro p e s m below meth c T0 X0 hnm hret
  refine og_iloadN X0 1 d9_0 rfl rfl ?_
  refine og_sipush X0 4 (255 : Int32) d9_1 rfl rfl ?_
  refine og_icmpN X0 7 d9_4 (XT.ii_gt_f q1) rfl ?_
  refine og_iconst X0 8 (1 : Int32) d9_7 rfl rfl ?_
  refine og_goto X0 12 d9_8 (by decide) (by decide) ?_
  refine own_retZ X0 d9_12 hret rfl (by decide) (by decide) ?_
  exact rfl
set_option maxRecDepth 65536 in
set_option maxHeartbeats 40000000 in
theorem rm_toB (l : Launch) (Z : State) (a0 : Array Value) (hw : ∀ d ∈ tables_1, d.before a0 Z = true) (n0 : Nat) (h0 : Heap) (hWd : OWorld Z a0) (wc : List Jvm.Cond) (O0 : Old Z n0 h0) (x : Int32)  :
    OMet l Z own_EL n0 (⟨"java/lang/StringLatin1", "toBytes", "(C)[B"⟩ : MethodName) (Jvm.Cond.code (⟨"java/lang/StringLatin1", "toBytes", "(C)[B"⟩ : MethodName) jdk_43_method_46_code 1 (some (.array .byte)) :: wc) ({ frames := 0, cells := 1, slots := 1, locals := 0 } : Room) #[(.int x)] h0 [] (fun vq hq => ∃ (r : Addr) (kb : ClassId), vq = some (.ref r) ∧ h0.size ≤ r ∧ Arv Z hq r kb .byte (1 : Int32) [(.int ((x).toInt8.toInt32))] (.int (0 : Int32))) := by
  refine own_enter #[.val (.int x)] pn_java_lang_StringLatin1_toBytes__C__B (ef_rm_toB x) hWd.1 O0 all0 ?_
  intro p e s m below meth c T0 X0 hnm hret
  refine og_iconst X0 1 (1 : Int32) d10_0 rfl rfl ?_
  refine own_arr X0 3 d10_1 (hw _ (List.mem_of_getElem? (i := 19) rfl)) (by decide) (cap := 1) (by decide) (by decide) (by decide) (by decide) rfl ?_
  intro T1 h1 b1 kb1 X1 K1 G1 U1 A1
  have f2 : Arv Z h1 b1 kb1 .byte (1 : Int32) [(.int (0 : Int32))] (.int (0 : Int32)) := A1
  refine og_dup X1 4 d10_3 rfl rfl ?_
  refine og_iconst X1 5 (0 : Int32) d10_4 rfl rfl ?_
  refine og_iloadN X1 6 d10_5 rfl rfl ?_
  refine og_i2b X1 7 d10_6 rfl ?_
  refine own_stB X1 8 d10_7 f2 (own_nbb _) (by decide) (by decide) (i := 0) (by decide) (Nat.le_of_ble_eq_true rfl) (List.mem_of_getElem? (i := 0) rfl) rfl ?_
  intro T3 h3 X3 W3 K3 A3
  have f4 : Arv Z h3 b1 kb1 .byte (1 : Int32) [(.int ((x).toInt8.toInt32))] (.int (0 : Int32)) := A3
  refine own_retA X3 d10_8 hret rfl rfl (by decide) (by decide) ?_
  exact ⟨b1, kb1, rfl, G1, f4⟩
set_option maxRecDepth 65536 in
set_option maxHeartbeats 40000000 in
theorem rm_newB (l : Launch) (Z : State) (a0 : Array Value) (hw : ∀ d ∈ tables_1, d.before a0 Z = true) (n0 : Nat) (h0 : Heap) (hWd : OWorld Z a0) (wc : List Jvm.Cond) (O0 : Old Z n0 h0) (a : Addr) (b : Addr) (y : Value) (z : Int32) (q0 : Exa Z h0 a "java/lang/String") (q1 : Fld Z h0 a "java/lang/String" "value" "[B" y) (q2 : Fld Z h0 a "java/lang/String" "coder" "B" (.int z)) (g0 : n0 ≤ a ∧ a < h0.size) :
    OMet l Z own_EL n0 (⟨"java/lang/String", "<init>", "([BB)V"⟩ : MethodName) (Jvm.Cond.code (⟨"java/lang/String", "<init>", "([BB)V"⟩ : MethodName) jdk_42_method_151_code 3 none :: wc) ({ frames := 1, cells := 0, slots := 0, locals := 12 } : Room) #[(.ref a), (.ref b), (.int (0 : Int32))] h0 [a] (fun vq hq => vq = none ∧ Fld Z hq a "java/lang/String" "value" "[B" (.ref b) ∧ Fld Z hq a "java/lang/String" "coder" "B" (.int (0 : Int32))) := by
  refine own_enter #[.val (.ref a), .val (.ref b), .val (.int (0 : Int32))] pn_java_lang_String__init____BB_V (ef_rm_newB a b y z) hWd.1 O0 (allS g0 all0) ?_
  intro p e s m below meth c T0 X0 hnm hret
  refine og_aloadN X0 1 d11_0 rfl rfl rfl ?_
  refine own_obj0 X0 4 (a := a) d11_1 (hw _ (List.mem_of_getElem? (i := 15) rfl)) (hw _ (List.mem_of_getElem? (i := 16) rfl)) (hw _ (List.mem_of_getElem? (i := 17) rfl)) rfl (W := 0) rfl (by decide) (by decide) rfl ?_
  intro T1 X2
  refine og_aloadN X2 5 d11_4 rfl rfl rfl ?_
  refine og_aloadN X2 6 d11_5 rfl rfl rfl ?_
  refine own_put X2 9 d11_6 (host := "") (Or.inl (hw _ (List.mem_of_getElem? (i := 24) rfl))) Via.refl q1 q0 (Or.inr ⟨(hw _ (List.mem_of_getElem? (i := 20) rfl)), rfl, hnm⟩) (hw _ (List.mem_of_getElem? (i := 5) rfl)) (ty := (.array .byte)) (by decide) rfl rfl (List.mem_of_getElem? (i := 0) rfl) rfl ?_
  intro T3 h3 X3 W3 K3 F3
  have f4 := Fld.other W3 q2 (Or.inr (slot_ne (Or.inr (hw _ (List.mem_of_getElem? (i := 21) rfl))) (Or.inr (hw _ (List.mem_of_getElem? (i := 20) rfl))) (by decide) (t := .byte) (t' := (.array .byte)) (by decide) (by decide)))
  refine og_aloadN X3 10 d11_9 rfl rfl rfl ?_
  refine og_iloadN X3 11 d11_10 rfl rfl ?_
  have f5 := q0.keep K3
  refine own_put X3 14 d11_11 (host := "") (Or.inl (hw _ (List.mem_of_getElem? (i := 25) rfl))) Via.refl f4 f5 (Or.inr ⟨(hw _ (List.mem_of_getElem? (i := 21) rfl)), rfl, hnm⟩) (hw _ (List.mem_of_getElem? (i := 5) rfl)) (ty := .byte) (by decide) rfl rfl (List.mem_of_getElem? (i := 0) rfl) rfl ?_
  intro T6 h6 X6 W6 K6 F6
  have f7 := Fld.other W6 F3 (Or.inr (slot_ne (Or.inr (hw _ (List.mem_of_getElem? (i := 20) rfl))) (Or.inr (hw _ (List.mem_of_getElem? (i := 21) rfl))) (by decide) (t := (.array .byte)) (t' := .byte) (by decide) (by decide)))
  refine own_retV X6 d11_14 hret (by decide) (by decide) ?_
  exact ⟨rfl, f7, F6⟩
set_option maxRecDepth 65536 in
set_option maxHeartbeats 40000000 in
theorem rm_valC (l : Launch) (Z : State) (a0 : Array Value) (hw : ∀ d ∈ tables_1, d.before a0 Z = true) (n0 : Nat) (h0 : Heap) (hWd : OWorld Z a0) (wc : List Jvm.Cond) (O0 : Old Z n0 h0) (x : Int32) (q0 : ¬ x < 0) (q1 : ¬ (255 : Int32) < x) :
    OMet l Z own_EL n0 (⟨"java/lang/String", "valueOf", "(C)Ljava/lang/String;"⟩ : MethodName) (Jvm.Cond.code (⟨"java/lang/String", "valueOf", "(C)Ljava/lang/String;"⟩ : MethodName) jdk_42_method_139_code 1 (some (.object "java/lang/String")) :: wc) ({ frames := 2, cells := 2, slots := 5, locals := 27 } : Room) #[(.int x)] h0 [] (fun vq hq => ∃ (r : Addr), vq = some (.ref r) ∧ h0.size ≤ r ∧ OStr Z hq r [x] hq.size) := by
  refine own_enter #[.val (.int x)] pn_java_lang_String_valueOf__C_Ljava_lang_String_ (ef_rm_valC x) hWd.1 O0 all0 ?_
  intro p e s m below meth c T0 X0 hnm hret
  refine own_getS X0 3 d8_0 (host := "") (Or.inl (hw _ (List.mem_of_getElem? (i := 26) rfl))) Via.refl hWd.2.1 rfl ?_
  intro T1 X2
  refine og_ifN X2 6 d8_3 (XT.i0_eq_f hWd.2.2) rfl ?_
  refine og_iloadN X2 7 d8_6 rfl rfl ?_
  refine own_stat X2 10 (argsL := [(.int x)]) (rest := []) d8_7 (rm_canE l Z a0 hw n0 h0 hWd [] X2.old x q0 q1 ) (hw _ (List.mem_of_getElem? (i := 40) rfl)) (hw _ (List.mem_of_getElem? (i := 41) rfl)) (hw _ (List.mem_of_getElem? (i := 42) rfl)) (hw _ (List.mem_of_getElem? (i := 43) rfl)) (by decide) (lenOf pd__28C_29Z rfl) rfl rfl rfl (W := 0) rfl (by decide) (by decide) (by decide) (by decide) all0 rfl ?_
  intro T3 h3 v3 X3 K3 hQ3
  obtain rfl := hQ3
  show OGo _ _ _ _ T3 (mkF m 10 #[.val (.int x)] [(.int (1 : Int32))])
  refine og_ifN X3 13 d8_10 (XT.i0_eq_f (by decide)) rfl ?_
  refine own_new X3 16 d8_13 (hw _ (List.mem_of_getElem? (i := 44) rfl)) (hw _ (List.mem_of_getElem? (i := 5) rfl)) (hw _ (List.mem_of_getElem? (i := 6) rfl)) (by decide) (by decide) rfl ?_
  intro T4 h4 b4 X4 K4 G4 U4 E4 D4
  have f5 : Fld Z h4 b4 "java/lang/String" "value" "[B" .null := D4 (Or.inr (hw _ (List.mem_of_getElem? (i := 20) rfl))) (ty := (.array .byte)) (by decide)
  have f6 : Fld Z h4 b4 "java/lang/String" "coder" "B" (.int (0 : Int32)) := D4 (Or.inr (hw _ (List.mem_of_getElem? (i := 21) rfl))) (ty := .byte) (by decide)
  refine og_dup X4 17 d8_16 rfl rfl ?_
  refine og_iloadN X4 18 d8_17 rfl rfl ?_
  refine own_stat X4 21 (argsL := [(.int x)]) (rest := [(.ref b4), (.ref b4)]) d8_18 (rm_toB l Z a0 hw n0 h4 hWd [] X4.old x  ) (hw _ (List.mem_of_getElem? (i := 45) rfl)) (hw _ (List.mem_of_getElem? (i := 46) rfl)) (hw _ (List.mem_of_getElem? (i := 42) rfl)) (hw _ (List.mem_of_getElem? (i := 47) rfl)) (by decide) (lenOf pd__28C_29_5bB rfl) rfl rfl rfl (W := 2) rfl (by decide) (by decide) (by decide) (by decide) all0 rfl ?_
  intro T7 h7 v7 X7 K7 hQ7
  obtain ⟨r7, kb7, rfl, ge_r7, f8⟩ := hQ7
  show OGo _ _ _ _ T7 (mkF m 21 #[.val (.int x)] [(.ref r7), (.ref b4), (.ref b4)])
  refine og_iconst X7 22 (0 : Int32) d8_21 rfl rfl ?_
  have f9 := E4.keep K7
  have f10 := f5.keep K7 nin0
  have f11 := f6.keep K7 nin0
  refine own_spec X7 25 (a := b4) (argsL := [(.ref r7), (.int (0 : Int32))]) (rest := [(.ref b4)]) d8_22 rfl (rm_newB l Z a0 hw n0 h7 hWd [] X7.old b4 r7 .null (0 : Int32) f9 f10 f11 (own_svb X7 (List.mem_of_getElem? (i := 0) rfl))) (hw _ (List.mem_of_getElem? (i := 48) rfl)) (hw _ (List.mem_of_getElem? (i := 49) rfl)) (hw _ (List.mem_of_getElem? (i := 6) rfl)) (hw _ (List.mem_of_getElem? (i := 50) rfl)) (by decide) (lenOf pd__28_5bBB_29V rfl) rfl rfl rfl (W := 1) rfl (by decide) (by decide) (by decide) (by decide) (allS (List.mem_of_getElem? (i := 0) rfl) all0) rfl ?_
  intro T12 h12 v12 X12 K12 hQ12
  obtain ⟨rfl, f13, f14⟩ := hQ12
  show OGo _ _ _ _ T12 (mkF m 25 #[.val (.int x)] [(.ref b4)])
  have f15 := f9.keep K12
  have f16 := f8.keep K12 (ninS (Nat.ne_of_gt (Nat.lt_of_lt_of_le U4 ge_r7)) nin0)
  refine own_retA X12 d8_25 hret rfl rfl (by decide) (by decide) ?_
  exact ⟨_, rfl, (Nat.le_trans K3.1 G4), own_mkStr (cs := [x]) (bs := [x.toInt8.toInt32]) (n := 1) f15 f14 f13 f16 rfl (own_lS ⟨q0, q1⟩ own_l0) rfl rfl (by decide)⟩
set_option maxRecDepth 65536 in
set_option maxHeartbeats 40000000 in
theorem rm1 (l : Launch) (Z : State) (a0 : Array Value) (hw : ∀ d ∈ tables_1, d.before a0 Z = true) (n0 : Nat) (h0 : Heap) (hWd : OWorld Z a0) (wc : List Jvm.Cond) (O0 : Old Z n0 h0) (x : Int32)  :
    OMet l Z own_EL n0 (⟨"com/example/chitragupta/chitragupta/model/HelpdeskSiteEqualsPinLaw", "str", "(I)Ljava/lang/String;"⟩ : MethodName) (Jvm.Cond.code (⟨"com/example/chitragupta/chitragupta/model/HelpdeskSiteEqualsPinLaw", "str", "(I)Ljava/lang/String;"⟩ : MethodName) method_2_code 5 (some (.object "java/lang/String")) :: wc) ({ frames := 4, cells := 6, slots := 12, locals := 66 } : Room) #[(.int x)] h0 [] (fun vq hq => ∃ (r : Addr), vq = some (.ref r) ∧ h0.size ≤ r ∧ OStr Z hq r (own_mk x) hq.size) := by
  refine own_enter #[.val (.int x), .unset, .unset, .unset, .unset] pn_com_example_chitragupta_chitragupta_model_HelpdeskSiteEqualsPinLaw_str__I_Ljava_lang_String_ (ef_rm1 x) hWd.1 O0 all0 ?_
  intro p e s m below meth c T0 X0 hnm hret
  refine og_iloadN X0 1 d1_0 rfl rfl ?_
  refine og_iconst X0 2 (3 : Int32) d1_1 rfl rfl ?_
  refine og_iand X0 3 d1_2 rfl ?_
  refine og_istoreN X0 4 #[.val (.int x), .val (.int (x &&& (3 : Int32))), .unset, .unset, .unset] d1_3 rfl rfl ?_
  refine og_iloadN X0 5 d1_4 rfl rfl ?_
  refine og_iconst X0 6 (2 : Int32) d1_5 rfl rfl ?_
  refine og_iushr X0 7 d1_6 rfl ?_
  refine og_sipush X0 10 (255 : Int32) d1_7 rfl rfl ?_
  refine og_iand X0 11 d1_10 rfl ?_
  refine og_i2c8 X0 12 d1_11 rfl ?_
  refine og_istoreN X0 13 #[.val (.int x), .val (.int (x &&& (3 : Int32))), .val (.int ((XT.ushr x (2 : Int32)) &&& (255 : Int32))), .unset, .unset] d1_12 rfl rfl ?_
  refine og_iloadN X0 14 d1_13 rfl rfl ?_
  refine og_bipush X0 16 (10 : Int32) d1_14 rfl rfl ?_
  refine og_iushr X0 17 d1_16 rfl ?_
  refine og_sipush X0 20 (255 : Int32) d1_17 rfl rfl ?_
  refine og_iand X0 21 d1_20 rfl ?_
  refine og_i2c8 X0 22 d1_21 rfl ?_
  refine og_istoreN X0 23 #[.val (.int x), .val (.int (x &&& (3 : Int32))), .val (.int ((XT.ushr x (2 : Int32)) &&& (255 : Int32))), .val (.int ((XT.ushr x (10 : Int32)) &&& (255 : Int32))), .unset] d1_22 rfl rfl ?_
  refine og_iloadN X0 24 d1_23 rfl rfl ?_
  refine og_bipush X0 26 (18 : Int32) d1_24 rfl rfl ?_
  refine og_iushr X0 27 d1_26 rfl ?_
  refine og_sipush X0 30 (255 : Int32) d1_27 rfl rfl ?_
  refine og_iand X0 31 d1_30 rfl ?_
  refine og_i2c8 X0 32 d1_31 rfl ?_
  refine og_istore X0 34 #[.val (.int x), .val (.int (x &&& (3 : Int32))), .val (.int ((XT.ushr x (2 : Int32)) &&& (255 : Int32))), .val (.int ((XT.ushr x (10 : Int32)) &&& (255 : Int32))), .val (.int ((XT.ushr x (18 : Int32)) &&& (255 : Int32)))] d1_32 rfl rfl ?_
  refine og_iloadN X0 35 d1_34 rfl rfl ?_
  by_cases hc1 : (x &&& (3 : Int32)) = 0
  · -- (x &&& (3 : Int32)) = 0
    refine og_ifN X0 38 d1_35 (XT.i0_ne_f hc1) rfl ?_
    refine own_new X0 41 d1_38 (hw _ (List.mem_of_getElem? (i := 4) rfl)) (hw _ (List.mem_of_getElem? (i := 5) rfl)) (hw _ (List.mem_of_getElem? (i := 6) rfl)) (by decide) (by decide) rfl ?_
    intro T2 h2 b2 X2 K2 G2 U2 E2 D2
    have f3 : Fld Z h2 b2 "java/lang/String" "value" "[B" .null := D2 (Or.inr (hw _ (List.mem_of_getElem? (i := 20) rfl))) (ty := (.array .byte)) (by decide)
    have f4 : Fld Z h2 b2 "java/lang/String" "coder" "B" (.int (0 : Int32)) := D2 (Or.inr (hw _ (List.mem_of_getElem? (i := 21) rfl))) (ty := .byte) (by decide)
    refine og_dup X2 42 d1_41 rfl rfl ?_
    refine og_iconst X2 43 (0 : Int32) d1_42 rfl rfl ?_
    refine own_arr X2 45 d1_43 (hw _ (List.mem_of_getElem? (i := 7) rfl)) (by decide) (cap := 0) (by decide) (by decide) (by decide) (by decide) rfl ?_
    intro T5 h5 b5 kb5 X5 K5 G5 U5 A5
    have f6 : Arv Z h5 b5 kb5 .char (0 : Int32) [] (.int (0 : Int32)) := A5
    have f7 := E2.keep K5
    have f8 := f3.keep K5 nin0
    have f9 := f4.keep K5 nin0
    refine own_spec X5 48 (a := b2) (argsL := [(.ref b5)]) (rest := [(.ref b2)]) d1_45 rfl (rm_emp1 l Z a0 hw n0 h5 hWd [] X5.old b2 b5 .null (0 : Int32) kb5 f7 f8 f9 f6 (own_svb X5 (List.mem_of_getElem? (i := 1) rfl))) (hw _ (List.mem_of_getElem? (i := 8) rfl)) (hw _ (List.mem_of_getElem? (i := 9) rfl)) (hw _ (List.mem_of_getElem? (i := 6) rfl)) (hw _ (List.mem_of_getElem? (i := 10) rfl)) (by decide) (lenOf pd__28_5bC_29V rfl) rfl rfl rfl (W := 1) rfl (by decide) (by decide) (by decide) (by decide) (allS (List.mem_of_getElem? (i := 1) rfl) all0) rfl ?_
    intro T10 h10 v10 X10 K10 hQ10
    obtain ⟨rfl, f11⟩ := hQ10
    show OGo _ _ _ _ T10 (mkF m 48 #[.val (.int x), .val (.int (x &&& (3 : Int32))), .val (.int ((XT.ushr x (2 : Int32)) &&& (255 : Int32))), .val (.int ((XT.ushr x (10 : Int32)) &&& (255 : Int32))), .val (.int ((XT.ushr x (18 : Int32)) &&& (255 : Int32)))] [(.ref b2)])
    refine own_retA X10 d1_48 hret rfl rfl (by decide) (by decide) ?_
    exact ⟨_, rfl, G2, by have q := f11.top; rwa [show [] = own_mk x by simp [own_mk, hc1]] at q⟩
  · -- not
    refine og_ifY X0 49 d1_35 (XT.i0_ne_t hc1) (by decide) (by decide) ?_
    refine og_iloadN X0 50 d1_49 rfl rfl ?_
    refine og_iconst X0 51 (1 : Int32) d1_50 rfl rfl ?_
    by_cases hc12 : (x &&& (3 : Int32)) = (1 : Int32)
    · -- (x &&& (3 : Int32)) = (1 : Int32)
      refine og_icmpN X0 54 d1_51 (XT.ii_ne_f hc12) rfl ?_
      refine og_iloadN X0 55 d1_54 rfl rfl ?_
      refine own_stat X0 58 (argsL := [(.int ((XT.ushr x (2 : Int32)) &&& (255 : Int32)))]) (rest := []) d1_55 (rm_valC l Z a0 hw n0 h0 hWd [] X0.old ((XT.ushr x (2 : Int32)) &&& (255 : Int32)) (own_lat8 _).1 (own_lat8 _).2 ) (hw _ (List.mem_of_getElem? (i := 37) rfl)) (hw _ (List.mem_of_getElem? (i := 38) rfl)) (hw _ (List.mem_of_getElem? (i := 6) rfl)) (hw _ (List.mem_of_getElem? (i := 39) rfl)) (by decide) (lenOf pd__28C_29Ljava_2flang_2fString_3b rfl) rfl rfl rfl (W := 0) rfl (by decide) (by decide) (by decide) (by decide) all0 rfl ?_
      intro T13 h13 v13 X13 K13 hQ13
      obtain ⟨r13, rfl, ge_r13, f14⟩ := hQ13
      show OGo _ _ _ _ T13 (mkF m 58 #[.val (.int x), .val (.int (x &&& (3 : Int32))), .val (.int ((XT.ushr x (2 : Int32)) &&& (255 : Int32))), .val (.int ((XT.ushr x (10 : Int32)) &&& (255 : Int32))), .val (.int ((XT.ushr x (18 : Int32)) &&& (255 : Int32)))] [(.ref r13)])
      refine own_retA X13 d1_58 hret rfl rfl (by decide) (by decide) ?_
      exact ⟨_, rfl, ge_r13, by have q := f14.top; rwa [show [((XT.ushr x (2 : Int32)) &&& (255 : Int32))] = own_mk x by simp [own_mk, hc1, hc12]] at q⟩
    · -- not
      refine og_icmpY X0 59 d1_51 (XT.ii_ne_t hc12) (by decide) (by decide) ?_
      refine og_iloadN X0 60 d1_59 rfl rfl ?_
      refine og_iconst X0 61 (2 : Int32) d1_60 rfl rfl ?_
      by_cases hc15 : (x &&& (3 : Int32)) = (2 : Int32)
      · -- (x &&& (3 : Int32)) = (2 : Int32)
        refine og_icmpN X0 64 d1_61 (XT.ii_ne_f hc15) rfl ?_
        refine own_new X0 67 d1_64 (hw _ (List.mem_of_getElem? (i := 4) rfl)) (hw _ (List.mem_of_getElem? (i := 5) rfl)) (hw _ (List.mem_of_getElem? (i := 6) rfl)) (by decide) (by decide) rfl ?_
        intro T16 h16 b16 X16 K16 G16 U16 E16 D16
        have f17 : Fld Z h16 b16 "java/lang/String" "value" "[B" .null := D16 (Or.inr (hw _ (List.mem_of_getElem? (i := 20) rfl))) (ty := (.array .byte)) (by decide)
        have f18 : Fld Z h16 b16 "java/lang/String" "coder" "B" (.int (0 : Int32)) := D16 (Or.inr (hw _ (List.mem_of_getElem? (i := 21) rfl))) (ty := .byte) (by decide)
        refine og_dup X16 68 d1_67 rfl rfl ?_
        refine og_iconst X16 69 (2 : Int32) d1_68 rfl rfl ?_
        refine own_arr X16 71 d1_69 (hw _ (List.mem_of_getElem? (i := 7) rfl)) (by decide) (cap := 2) (by decide) (by decide) (by decide) (by decide) rfl ?_
        intro T19 h19 b19 kb19 X19 K19 G19 U19 A19
        have f20 : Arv Z h19 b19 kb19 .char (2 : Int32) [(.int (0 : Int32)), (.int (0 : Int32))] (.int (0 : Int32)) := A19
        refine og_dup X19 72 d1_71 rfl rfl ?_
        refine og_iconst X19 73 (0 : Int32) d1_72 rfl rfl ?_
        refine og_iloadN X19 74 d1_73 rfl rfl ?_
        refine own_stC X19 75 d1_74 f20 (own_nc8 _) (by decide) (by decide) (i := 0) (by decide) (Nat.le_of_ble_eq_true rfl) (List.mem_of_getElem? (i := 0) rfl) rfl ?_
        intro T21 h21 X21 W21 K21 A21
        have f22 : Arv Z h21 b19 kb19 .char (2 : Int32) [(.int ((XT.ushr x (2 : Int32)) &&& (255 : Int32))), (.int (0 : Int32))] (.int (0 : Int32)) := A21
        refine og_dup X21 76 d1_75 rfl rfl ?_
        refine og_iconst X21 77 (1 : Int32) d1_76 rfl rfl ?_
        refine og_iloadN X21 78 d1_77 rfl rfl ?_
        refine own_stC X21 79 d1_78 f22 (own_nc8 _) (by decide) (by decide) (i := 1) (by decide) (Nat.le_of_ble_eq_true rfl) (List.mem_of_getElem? (i := 0) rfl) rfl ?_
        intro T23 h23 X23 W23 K23 A23
        have f24 : Arv Z h23 b19 kb19 .char (2 : Int32) [(.int ((XT.ushr x (2 : Int32)) &&& (255 : Int32))), (.int ((XT.ushr x (10 : Int32)) &&& (255 : Int32)))] (.int (0 : Int32)) := A23
        have f25 := E16.keep K19
        have f26 := f25.keep K21
        have f27 := f26.keep K23
        have f28 := f17.keep K19 nin0
        have f29 := f28.keep K21 (ninS (Nat.ne_of_lt (Nat.lt_of_lt_of_le U16 G19)) nin0)
        have f30 := f29.keep K23 (ninS (Nat.ne_of_lt (Nat.lt_of_lt_of_le U16 G19)) nin0)
        have f31 := f18.keep K19 nin0
        have f32 := f31.keep K21 (ninS (Nat.ne_of_lt (Nat.lt_of_lt_of_le U16 G19)) nin0)
        have f33 := f32.keep K23 (ninS (Nat.ne_of_lt (Nat.lt_of_lt_of_le U16 G19)) nin0)
        have hp34 : ∀ c ∈ ([((XT.ushr x (2 : Int32)) &&& (255 : Int32)), ((XT.ushr x (10 : Int32)) &&& (255 : Int32))] : List Int32), ¬ c < 0 ∧ ¬ (255 : Int32) < c := (own_lS (own_lat8 _) (own_lS (own_lat8 _) own_l0))
        refine own_specB X23 82 (a := b16) (argsL := [(.ref b19)]) (rest := [(.ref b16)]) d1_79 rfl (fun vm0 hZ => StrChars.Road.backV (W := 1) hZ (own_wV hw) (kI := 4) (hw _ (List.mem_of_getElem? (i := 5) rfl)) (cs := [((XT.ushr x (2 : Int32)) &&& (255 : Int32)), ((XT.ushr x (10 : Int32)) &&& (255 : Int32))]) (n := 2) (own_svb X23 (List.mem_of_getElem? (i := 1) rfl)).1 (own_n0 X23) f27 f30 f33 f24 (hWd.2.1.ext X23.old.2) hWd.2.2 rfl rfl (by decide) (by decide) hp34 rfl (by decide) (by decide)) (fun v h' L q => ⟨q.2.1, q.2.2.1⟩) (hw _ (List.mem_of_getElem? (i := 8) rfl)) (hw _ (List.mem_of_getElem? (i := 9) rfl)) (hw _ (List.mem_of_getElem? (i := 10) rfl)) (by decide) (lenOf pd__28_5bC_29V rfl) rfl rfl rfl (W := 1) rfl (by decide) (by decide) (allS (List.mem_of_getElem? (i := 1) rfl) all0) rfl ?_
        intro T34 h34 v34 L34 X34 K34 hQ34
        obtain ⟨rfl, -, -, E34, C34, t34, k34, -, gt34, nt34, V34, A34⟩ := hQ34
        have f35 := own_mkStr E34 C34 V34 A34 rfl hp34 rfl rfl (Nat.le_of_ble_eq_true rfl)
        show OGo _ _ _ _ T34 (mkF m 82 #[.val (.int x), .val (.int (x &&& (3 : Int32))), .val (.int ((XT.ushr x (2 : Int32)) &&& (255 : Int32))), .val (.int ((XT.ushr x (10 : Int32)) &&& (255 : Int32))), .val (.int ((XT.ushr x (18 : Int32)) &&& (255 : Int32)))] [(.ref b16)])
        refine own_retA X34 d1_82 hret rfl rfl (by decide) (by decide) ?_
        exact ⟨_, rfl, G16, by have q := f35.top; rwa [show [((XT.ushr x (2 : Int32)) &&& (255 : Int32)), ((XT.ushr x (10 : Int32)) &&& (255 : Int32))] = own_mk x by simp [own_mk, hc1, hc12, hc15]] at q⟩
      · -- not
        refine og_icmpY X0 83 d1_61 (XT.ii_ne_t hc15) (by decide) (by decide) ?_
        refine own_new X0 86 d1_83 (hw _ (List.mem_of_getElem? (i := 4) rfl)) (hw _ (List.mem_of_getElem? (i := 5) rfl)) (hw _ (List.mem_of_getElem? (i := 6) rfl)) (by decide) (by decide) rfl ?_
        intro T36 h36 b36 X36 K36 G36 U36 E36 D36
        have f37 : Fld Z h36 b36 "java/lang/String" "value" "[B" .null := D36 (Or.inr (hw _ (List.mem_of_getElem? (i := 20) rfl))) (ty := (.array .byte)) (by decide)
        have f38 : Fld Z h36 b36 "java/lang/String" "coder" "B" (.int (0 : Int32)) := D36 (Or.inr (hw _ (List.mem_of_getElem? (i := 21) rfl))) (ty := .byte) (by decide)
        refine og_dup X36 87 d1_86 rfl rfl ?_
        refine og_iconst X36 88 (3 : Int32) d1_87 rfl rfl ?_
        refine own_arr X36 90 d1_88 (hw _ (List.mem_of_getElem? (i := 7) rfl)) (by decide) (cap := 3) (by decide) (by decide) (by decide) (by decide) rfl ?_
        intro T39 h39 b39 kb39 X39 K39 G39 U39 A39
        have f40 : Arv Z h39 b39 kb39 .char (3 : Int32) [(.int (0 : Int32)), (.int (0 : Int32)), (.int (0 : Int32))] (.int (0 : Int32)) := A39
        refine og_dup X39 91 d1_90 rfl rfl ?_
        refine og_iconst X39 92 (0 : Int32) d1_91 rfl rfl ?_
        refine og_iloadN X39 93 d1_92 rfl rfl ?_
        refine own_stC X39 94 d1_93 f40 (own_nc8 _) (by decide) (by decide) (i := 0) (by decide) (Nat.le_of_ble_eq_true rfl) (List.mem_of_getElem? (i := 0) rfl) rfl ?_
        intro T41 h41 X41 W41 K41 A41
        have f42 : Arv Z h41 b39 kb39 .char (3 : Int32) [(.int ((XT.ushr x (2 : Int32)) &&& (255 : Int32))), (.int (0 : Int32)), (.int (0 : Int32))] (.int (0 : Int32)) := A41
        refine og_dup X41 95 d1_94 rfl rfl ?_
        refine og_iconst X41 96 (1 : Int32) d1_95 rfl rfl ?_
        refine og_iloadN X41 97 d1_96 rfl rfl ?_
        refine own_stC X41 98 d1_97 f42 (own_nc8 _) (by decide) (by decide) (i := 1) (by decide) (Nat.le_of_ble_eq_true rfl) (List.mem_of_getElem? (i := 0) rfl) rfl ?_
        intro T43 h43 X43 W43 K43 A43
        have f44 : Arv Z h43 b39 kb39 .char (3 : Int32) [(.int ((XT.ushr x (2 : Int32)) &&& (255 : Int32))), (.int ((XT.ushr x (10 : Int32)) &&& (255 : Int32))), (.int (0 : Int32))] (.int (0 : Int32)) := A43
        refine og_dup X43 99 d1_98 rfl rfl ?_
        refine og_iconst X43 100 (2 : Int32) d1_99 rfl rfl ?_
        refine og_iload X43 102 d1_100 rfl rfl ?_
        refine own_stC X43 103 d1_102 f44 (own_nc8 _) (by decide) (by decide) (i := 2) (by decide) (Nat.le_of_ble_eq_true rfl) (List.mem_of_getElem? (i := 0) rfl) rfl ?_
        intro T45 h45 X45 W45 K45 A45
        have f46 : Arv Z h45 b39 kb39 .char (3 : Int32) [(.int ((XT.ushr x (2 : Int32)) &&& (255 : Int32))), (.int ((XT.ushr x (10 : Int32)) &&& (255 : Int32))), (.int ((XT.ushr x (18 : Int32)) &&& (255 : Int32)))] (.int (0 : Int32)) := A45
        have f47 := E36.keep K39
        have f48 := f47.keep K41
        have f49 := f48.keep K43
        have f50 := f49.keep K45
        have f51 := f37.keep K39 nin0
        have f52 := f51.keep K41 (ninS (Nat.ne_of_lt (Nat.lt_of_lt_of_le U36 G39)) nin0)
        have f53 := f52.keep K43 (ninS (Nat.ne_of_lt (Nat.lt_of_lt_of_le U36 G39)) nin0)
        have f54 := f53.keep K45 (ninS (Nat.ne_of_lt (Nat.lt_of_lt_of_le U36 G39)) nin0)
        have f55 := f38.keep K39 nin0
        have f56 := f55.keep K41 (ninS (Nat.ne_of_lt (Nat.lt_of_lt_of_le U36 G39)) nin0)
        have f57 := f56.keep K43 (ninS (Nat.ne_of_lt (Nat.lt_of_lt_of_le U36 G39)) nin0)
        have f58 := f57.keep K45 (ninS (Nat.ne_of_lt (Nat.lt_of_lt_of_le U36 G39)) nin0)
        have hp59 : ∀ c ∈ ([((XT.ushr x (2 : Int32)) &&& (255 : Int32)), ((XT.ushr x (10 : Int32)) &&& (255 : Int32)), ((XT.ushr x (18 : Int32)) &&& (255 : Int32))] : List Int32), ¬ c < 0 ∧ ¬ (255 : Int32) < c := (own_lS (own_lat8 _) (own_lS (own_lat8 _) (own_lS (own_lat8 _) own_l0)))
        refine own_specB X45 106 (a := b36) (argsL := [(.ref b39)]) (rest := [(.ref b36)]) d1_103 rfl (fun vm0 hZ => StrChars.Road.backV (W := 1) hZ (own_wV hw) (kI := 4) (hw _ (List.mem_of_getElem? (i := 5) rfl)) (cs := [((XT.ushr x (2 : Int32)) &&& (255 : Int32)), ((XT.ushr x (10 : Int32)) &&& (255 : Int32)), ((XT.ushr x (18 : Int32)) &&& (255 : Int32))]) (n := 3) (own_svb X45 (List.mem_of_getElem? (i := 1) rfl)).1 (own_n0 X45) f50 f54 f58 f46 (hWd.2.1.ext X45.old.2) hWd.2.2 rfl rfl (by decide) (by decide) hp59 rfl (by decide) (by decide)) (fun v h' L q => ⟨q.2.1, q.2.2.1⟩) (hw _ (List.mem_of_getElem? (i := 8) rfl)) (hw _ (List.mem_of_getElem? (i := 9) rfl)) (hw _ (List.mem_of_getElem? (i := 10) rfl)) (by decide) (lenOf pd__28_5bC_29V rfl) rfl rfl rfl (W := 1) rfl (by decide) (by decide) (allS (List.mem_of_getElem? (i := 1) rfl) all0) rfl ?_
        intro T59 h59 v59 L59 X59 K59 hQ59
        obtain ⟨rfl, -, -, E59, C59, t59, k59, -, gt59, nt59, V59, A59⟩ := hQ59
        have f60 := own_mkStr E59 C59 V59 A59 rfl hp59 rfl rfl (Nat.le_of_ble_eq_true rfl)
        show OGo _ _ _ _ T59 (mkF m 106 #[.val (.int x), .val (.int (x &&& (3 : Int32))), .val (.int ((XT.ushr x (2 : Int32)) &&& (255 : Int32))), .val (.int ((XT.ushr x (10 : Int32)) &&& (255 : Int32))), .val (.int ((XT.ushr x (18 : Int32)) &&& (255 : Int32)))] [(.ref b36)])
        refine own_retA X59 d1_106 hret rfl rfl (by decide) (by decide) ?_
        exact ⟨_, rfl, G36, by have q := f60.top; rwa [show [((XT.ushr x (2 : Int32)) &&& (255 : Int32)), ((XT.ushr x (10 : Int32)) &&& (255 : Int32)), ((XT.ushr x (18 : Int32)) &&& (255 : Int32))] = own_mk x by simp [own_mk, hc1, hc12, hc15]] at q⟩
set_option maxRecDepth 65536 in
set_option maxHeartbeats 40000000 in
theorem rm12 (l : Launch) (Z : State) (a0 : Array Value) (hw : ∀ d ∈ tables_1, d.before a0 Z = true) (n0 : Nat) (h0 : Heap) (hWd : OWorld Z a0) (wc : List Jvm.Cond) (O0 : Old Z n0 h0) (x : Int32) (y : Int32)  :
    OMet l Z own_EL n0 (⟨"com/example/chitragupta/chitragupta/model/HelpdeskSiteEqualsPinLaw", "sameStr", "(II)Z"⟩ : MethodName) (Jvm.Cond.code (⟨"com/example/chitragupta/chitragupta/model/HelpdeskSiteEqualsPinLaw", "sameStr", "(II)Z"⟩ : MethodName) method_3_code 5 (some .boolean) :: wc) ({ frames := 0, cells := 0, slots := 0, locals := 0 } : Room) #[(.int x), (.int y)] h0 [] (fun vq hq => vq = some (.int (own_eqb (own_mk x) (own_mk y)))) := by
  refine own_enter #[.val (.int x), .val (.int y), .unset, .unset, .unset] pn_com_example_chitragupta_chitragupta_model_HelpdeskSiteEqualsPinLaw_sameStr__II_Z (ef_rm12 x y) hWd.1 O0 all0 ?_
  intro p e s m below meth c T0 X0 hnm hret
  refine og_iloadN X0 1 d12_0 rfl rfl ?_
  refine og_iconst X0 2 (3 : Int32) d12_1 rfl rfl ?_
  refine og_iand X0 3 d12_2 rfl ?_
  refine og_istoreN X0 4 #[.val (.int x), .val (.int y), .val (.int (x &&& (3 : Int32))), .unset, .unset] d12_3 rfl rfl ?_
  refine og_iloadN X0 5 d12_4 rfl rfl ?_
  refine og_iconst X0 6 (3 : Int32) d12_5 rfl rfl ?_
  refine og_iand X0 7 d12_6 rfl ?_
  refine og_istoreN X0 8 #[.val (.int x), .val (.int y), .val (.int (x &&& (3 : Int32))), .val (.int (y &&& (3 : Int32))), .unset] d12_7 rfl rfl ?_
  refine og_iloadN X0 9 d12_8 rfl rfl ?_
  refine og_iloadN X0 10 d12_9 rfl rfl ?_
  by_cases hc1 : (x &&& (3 : Int32)) = (y &&& (3 : Int32))
  · -- (x &&& (3 : Int32)) = (y &&& (3 : Int32))
    refine og_icmpY X0 15 d12_10 (XT.ii_eq_t hc1) (by decide) (by decide) ?_
    refine og_iloadN X0 16 d12_15 rfl rfl ?_
    by_cases hc2 : (x &&& (3 : Int32)) = 0
    · -- (x &&& (3 : Int32)) = 0
      refine og_ifN X0 19 d12_16 (XT.i0_ne_f hc2) rfl ?_
      refine og_iconst X0 20 (0 : Int32) d12_19 rfl rfl ?_
      refine og_istore X0 22 #[.val (.int x), .val (.int y), .val (.int (x &&& (3 : Int32))), .val (.int (y &&& (3 : Int32))), .val (.int (0 : Int32))] d12_20 rfl rfl ?_
      refine og_goto X0 54 d12_22 (by decide) (by decide) ?_
      refine og_iloadN X0 55 d12_54 rfl rfl ?_
      refine og_iloadN X0 56 d12_55 rfl rfl ?_
      refine og_ixor X0 57 d12_56 rfl ?_
      refine og_iconst X0 58 (2 : Int32) d12_57 rfl rfl ?_
      refine og_iushr X0 59 d12_58 rfl ?_
      refine og_iload X0 61 d12_59 rfl rfl ?_
      refine og_iand X0 62 d12_61 rfl ?_
      by_cases hc3 : ((XT.ushr (x ^^^ y) (2 : Int32)) &&& (0 : Int32)) = 0
      · -- ((XT.ushr (x ^^^ y) (2 : Int32)) &&& (0 : Int32)) = 0
        refine og_ifN X0 65 d12_62 (XT.i0_ne_f hc3) rfl ?_
        refine og_iconst X0 66 (1 : Int32) d12_65 rfl rfl ?_
        refine og_goto X0 70 d12_66 (by decide) (by decide) ?_
        refine own_retZ X0 d12_70 hret rfl (by decide) (by decide) ?_
        rw [← own_same_eq, own_sameJ, if_pos hc1, if_pos hc2, if_pos hc3]
      · -- not
        refine og_ifY X0 69 d12_62 (XT.i0_ne_t hc3) (by decide) (by decide) ?_
        refine og_iconst X0 70 (0 : Int32) d12_69 rfl rfl ?_
        refine own_retZ X0 d12_70 hret rfl (by decide) (by decide) ?_
        rw [← own_same_eq, own_sameJ, if_pos hc1, if_pos hc2, if_neg hc3]
    · -- not
      refine og_ifY X0 25 d12_16 (XT.i0_ne_t hc2) (by decide) (by decide) ?_
      refine og_iloadN X0 26 d12_25 rfl rfl ?_
      refine og_iconst X0 27 (1 : Int32) d12_26 rfl rfl ?_
      by_cases hc4 : (x &&& (3 : Int32)) = (1 : Int32)
      · -- (x &&& (3 : Int32)) = (1 : Int32)
        refine og_icmpN X0 30 d12_27 (XT.ii_ne_f hc4) rfl ?_
        refine og_sipush X0 33 (255 : Int32) d12_30 rfl rfl ?_
        refine og_istore X0 35 #[.val (.int x), .val (.int y), .val (.int (x &&& (3 : Int32))), .val (.int (y &&& (3 : Int32))), .val (.int (255 : Int32))] d12_33 rfl rfl ?_
        refine og_goto X0 54 d12_35 (by decide) (by decide) ?_
        refine og_iloadN X0 55 d12_54 rfl rfl ?_
        refine og_iloadN X0 56 d12_55 rfl rfl ?_
        refine og_ixor X0 57 d12_56 rfl ?_
        refine og_iconst X0 58 (2 : Int32) d12_57 rfl rfl ?_
        refine og_iushr X0 59 d12_58 rfl ?_
        refine og_iload X0 61 d12_59 rfl rfl ?_
        refine og_iand X0 62 d12_61 rfl ?_
        by_cases hc5 : ((XT.ushr (x ^^^ y) (2 : Int32)) &&& (255 : Int32)) = 0
        · -- ((XT.ushr (x ^^^ y) (2 : Int32)) &&& (255 : Int32)) = 0
          refine og_ifN X0 65 d12_62 (XT.i0_ne_f hc5) rfl ?_
          refine og_iconst X0 66 (1 : Int32) d12_65 rfl rfl ?_
          refine og_goto X0 70 d12_66 (by decide) (by decide) ?_
          refine own_retZ X0 d12_70 hret rfl (by decide) (by decide) ?_
          rw [← own_same_eq, own_sameJ, if_pos hc1, if_neg hc2, if_pos hc4, if_pos hc5]
        · -- not
          refine og_ifY X0 69 d12_62 (XT.i0_ne_t hc5) (by decide) (by decide) ?_
          refine og_iconst X0 70 (0 : Int32) d12_69 rfl rfl ?_
          refine own_retZ X0 d12_70 hret rfl (by decide) (by decide) ?_
          rw [← own_same_eq, own_sameJ, if_pos hc1, if_neg hc2, if_pos hc4, if_neg hc5]
      · -- not
        refine og_icmpY X0 38 d12_27 (XT.ii_ne_t hc4) (by decide) (by decide) ?_
        refine og_iloadN X0 39 d12_38 rfl rfl ?_
        refine og_iconst X0 40 (2 : Int32) d12_39 rfl rfl ?_
        by_cases hc6 : (x &&& (3 : Int32)) = (2 : Int32)
        · -- (x &&& (3 : Int32)) = (2 : Int32)
          refine og_icmpN X0 43 d12_40 (XT.ii_ne_f hc6) rfl ?_
          refine own_ldcI X0 45 (v := (65535 : Int32)) d12_43 (hw _ (List.mem_of_getElem? (i := 87) rfl)) rfl ?_
          refine og_istore X0 47 #[.val (.int x), .val (.int y), .val (.int (x &&& (3 : Int32))), .val (.int (y &&& (3 : Int32))), .val (.int (65535 : Int32))] d12_45 rfl rfl ?_
          refine og_goto X0 54 d12_47 (by decide) (by decide) ?_
          refine og_iloadN X0 55 d12_54 rfl rfl ?_
          refine og_iloadN X0 56 d12_55 rfl rfl ?_
          refine og_ixor X0 57 d12_56 rfl ?_
          refine og_iconst X0 58 (2 : Int32) d12_57 rfl rfl ?_
          refine og_iushr X0 59 d12_58 rfl ?_
          refine og_iload X0 61 d12_59 rfl rfl ?_
          refine og_iand X0 62 d12_61 rfl ?_
          by_cases hc7 : ((XT.ushr (x ^^^ y) (2 : Int32)) &&& (65535 : Int32)) = 0
          · -- ((XT.ushr (x ^^^ y) (2 : Int32)) &&& (65535 : Int32)) = 0
            refine og_ifN X0 65 d12_62 (XT.i0_ne_f hc7) rfl ?_
            refine og_iconst X0 66 (1 : Int32) d12_65 rfl rfl ?_
            refine og_goto X0 70 d12_66 (by decide) (by decide) ?_
            refine own_retZ X0 d12_70 hret rfl (by decide) (by decide) ?_
            rw [← own_same_eq, own_sameJ, if_pos hc1, if_neg hc2, if_neg hc4, if_pos hc6, if_pos hc7]
          · -- not
            refine og_ifY X0 69 d12_62 (XT.i0_ne_t hc7) (by decide) (by decide) ?_
            refine og_iconst X0 70 (0 : Int32) d12_69 rfl rfl ?_
            refine own_retZ X0 d12_70 hret rfl (by decide) (by decide) ?_
            rw [← own_same_eq, own_sameJ, if_pos hc1, if_neg hc2, if_neg hc4, if_pos hc6, if_neg hc7]
        · -- not
          refine og_icmpY X0 50 d12_40 (XT.ii_ne_t hc6) (by decide) (by decide) ?_
          refine own_ldcI X0 52 (v := (16777215 : Int32)) d12_50 (hw _ (List.mem_of_getElem? (i := 88) rfl)) rfl ?_
          refine og_istore X0 54 #[.val (.int x), .val (.int y), .val (.int (x &&& (3 : Int32))), .val (.int (y &&& (3 : Int32))), .val (.int (16777215 : Int32))] d12_52 rfl rfl ?_
          refine og_iloadN X0 55 d12_54 rfl rfl ?_
          refine og_iloadN X0 56 d12_55 rfl rfl ?_
          refine og_ixor X0 57 d12_56 rfl ?_
          refine og_iconst X0 58 (2 : Int32) d12_57 rfl rfl ?_
          refine og_iushr X0 59 d12_58 rfl ?_
          refine og_iload X0 61 d12_59 rfl rfl ?_
          refine og_iand X0 62 d12_61 rfl ?_
          by_cases hc8 : ((XT.ushr (x ^^^ y) (2 : Int32)) &&& (16777215 : Int32)) = 0
          · -- ((XT.ushr (x ^^^ y) (2 : Int32)) &&& (16777215 : Int32)) = 0
            refine og_ifN X0 65 d12_62 (XT.i0_ne_f hc8) rfl ?_
            refine og_iconst X0 66 (1 : Int32) d12_65 rfl rfl ?_
            refine og_goto X0 70 d12_66 (by decide) (by decide) ?_
            refine own_retZ X0 d12_70 hret rfl (by decide) (by decide) ?_
            rw [← own_same_eq, own_sameJ, if_pos hc1, if_neg hc2, if_neg hc4, if_neg hc6, if_pos hc8]
          · -- not
            refine og_ifY X0 69 d12_62 (XT.i0_ne_t hc8) (by decide) (by decide) ?_
            refine og_iconst X0 70 (0 : Int32) d12_69 rfl rfl ?_
            refine own_retZ X0 d12_70 hret rfl (by decide) (by decide) ?_
            rw [← own_same_eq, own_sameJ, if_pos hc1, if_neg hc2, if_neg hc4, if_neg hc6, if_neg hc8]
  · -- not
    refine og_icmpN X0 13 d12_10 (XT.ii_eq_f hc1) rfl ?_
    refine og_iconst X0 14 (0 : Int32) d12_13 rfl rfl ?_
    refine own_retZ X0 d12_14 hret rfl (by decide) (by decide) ?_
    rw [← own_same_eq, own_sameJ, if_neg hc1]
set_option maxRecDepth 65536 in
set_option maxHeartbeats 40000000 in
theorem rm14 (l : Launch) (Z : State) (a0 : Array Value) (hw : ∀ d ∈ tables_1, d.before a0 Z = true) (n0 : Nat) (h0 : Heap) (hWd : OWorld Z a0) (wc : List Jvm.Cond) (O0 : Old Z n0 h0) (a : Addr)  :
    OMet l Z own_EL n0 (⟨"java/util/Objects", "requireNonNull", "(Ljava/lang/Object;)Ljava/lang/Object;"⟩ : MethodName) (Jvm.Cond.code (⟨"java/util/Objects", "requireNonNull", "(Ljava/lang/Object;)Ljava/lang/Object;"⟩ : MethodName) jdk_31_method_10_code 1 (some (.object "java/lang/Object")) :: wc) ({ frames := 0, cells := 0, slots := 0, locals := 0 } : Room) #[(.ref a)] h0 [] (fun vq hq => vq = some (.ref a)) := by
  refine own_enter #[.val (.ref a)] pn_java_util_Objects_requireNonNull__Ljava_lang_Object__Ljava_lang_Object_ (ef_rm14 a) hWd.1 O0 all0 ?_
  intro p e s m below meth c T0 X0 hnm hret
  refine og_aloadN X0 1 d14_0 rfl rfl rfl ?_
  refine og_nonnullY X0 12 d14_1 (by decide) (by decide) ?_
  refine og_aloadN X0 13 d14_12 rfl rfl rfl ?_
  refine own_retA X0 d14_13 hret rfl rfl (by decide) (by decide) ?_
  exact rfl
set_option maxRecDepth 65536 in
set_option maxHeartbeats 40000000 in
theorem rm13 (l : Launch) (Z : State) (a0 : Array Value) (hw : ∀ d ∈ tables_1, d.before a0 Z = true) (n0 : Nat) (h0 : Heap) (hWd : OWorld Z a0) (wc : List Jvm.Cond) (O0 : Old Z n0 h0) (a : Addr) (u : Addr) (v : Addr) (q0 : Exa Z h0 a "com/example/chitragupta/chitragupta/model/HelpdeskSite") (q1 : Fld Z h0 a "com/example/chitragupta/chitragupta/model/HelpdeskSite" "kind" "Ljava/lang/String;" .null) (q2 : Fld Z h0 a "com/example/chitragupta/chitragupta/model/HelpdeskSite" "url" "Ljava/lang/String;" .null) (q3 : Exa Z h0 u "java/lang/String") (q4 : Exa Z h0 v "java/lang/String") (g0 : n0 ≤ a ∧ a < h0.size) :
    OMet l Z own_EL n0 (⟨"com/example/chitragupta/chitragupta/model/HelpdeskSite", "<init>", "(Ljava/lang/String;Ljava/lang/String;)V"⟩ : MethodName) (Jvm.Cond.code (⟨"com/example/chitragupta/chitragupta/model/HelpdeskSite", "<init>", "(Ljava/lang/String;Ljava/lang/String;)V"⟩ : MethodName) prog_26_method_1_code 3 none :: wc) ({ frames := 1, cells := 0, slots := 0, locals := 13 } : Room) #[(.ref a), (.ref u), (.ref v)] h0 [a] (fun vq hq => vq = none ∧ Fld Z hq a "com/example/chitragupta/chitragupta/model/HelpdeskSite" "kind" "Ljava/lang/String;" (.ref u) ∧ Fld Z hq a "com/example/chitragupta/chitragupta/model/HelpdeskSite" "url" "Ljava/lang/String;" (.ref v)) := by
  refine own_enter #[.val (.ref a), .val (.ref u), .val (.ref v)] pn_com_example_chitragupta_chitragupta_model_HelpdeskSite__init___Ljava_lang_String_Ljava_lang_String__V (ef_rm13 a u v) hWd.1 O0 (allS g0 all0) ?_
  intro p e s m below meth c T0 X0 hnm hret
  refine og_aloadN X0 1 d13_0 rfl rfl rfl ?_
  refine own_obj0 X0 4 (a := a) d13_1 (hw _ (List.mem_of_getElem? (i := 60) rfl)) (hw _ (List.mem_of_getElem? (i := 16) rfl)) (hw _ (List.mem_of_getElem? (i := 17) rfl)) rfl (W := 0) rfl (by decide) (by decide) rfl ?_
  intro T1 X2
  refine og_aloadN X2 5 d13_4 rfl rfl rfl ?_
  refine og_aloadN X2 6 d13_5 rfl rfl rfl ?_
  refine own_stat X2 9 (argsL := [(.ref u)]) (rest := [(.ref a)]) d13_6 (rm14 l Z a0 hw n0 h0 hWd [] X2.old u  ) (hw _ (List.mem_of_getElem? (i := 61) rfl)) (hw _ (List.mem_of_getElem? (i := 62) rfl)) (hw _ (List.mem_of_getElem? (i := 63) rfl)) (hw _ (List.mem_of_getElem? (i := 64) rfl)) (by decide) (lenOf pd__28Ljava_2flang_2fObject_3b_29Ljava_2flang_2fObject_3b rfl) rfl rfl rfl (W := 1) rfl (by decide) (by decide) (by decide) (by decide) all0 rfl ?_
  intro T3 h3 v3 X3 K3 hQ3
  obtain rfl := hQ3
  show OGo _ _ _ _ T3 (mkF m 9 #[.val (.ref a), .val (.ref u), .val (.ref v)] [(.ref u), (.ref a)])
  have f4 := q3.keep K3
  refine own_cast X3 12 d13_9 (hw _ (List.mem_of_getElem? (i := 65) rfl)) (Ins.self f4) rfl ?_
  intro T5 X6
  have f7 := q1.keep K3 nin0
  have f8 := q0.keep K3
  have f9 := q2.keep K3 nin0
  refine own_put X6 15 d13_12 (host := "") (Or.inl (hw _ (List.mem_of_getElem? (i := 66) rfl))) Via.refl f7 f8 (Or.inr ⟨(hw _ (List.mem_of_getElem? (i := 67) rfl)), rfl, hnm⟩) (hw _ (List.mem_of_getElem? (i := 55) rfl)) (ty := (.object "java/lang/String")) (by decide) rfl rfl (List.mem_of_getElem? (i := 0) rfl) rfl ?_
  intro T10 h10 X10 W10 K10 F10
  have f11 := Fld.other W10 f9 (Or.inr (slot_ne (Or.inr (hw _ (List.mem_of_getElem? (i := 69) rfl))) (Or.inr (hw _ (List.mem_of_getElem? (i := 67) rfl))) (by decide) (t := (.object "java/lang/String")) (t' := (.object "java/lang/String")) (by decide) (by decide)))
  refine og_aloadN X10 16 d13_15 rfl rfl rfl ?_
  refine og_aloadN X10 17 d13_16 rfl rfl rfl ?_
  refine own_stat X10 20 (argsL := [(.ref v)]) (rest := [(.ref a)]) d13_17 (rm14 l Z a0 hw n0 h10 hWd [] X10.old v  ) (hw _ (List.mem_of_getElem? (i := 61) rfl)) (hw _ (List.mem_of_getElem? (i := 62) rfl)) (hw _ (List.mem_of_getElem? (i := 63) rfl)) (hw _ (List.mem_of_getElem? (i := 64) rfl)) (by decide) (lenOf pd__28Ljava_2flang_2fObject_3b_29Ljava_2flang_2fObject_3b rfl) rfl rfl rfl (W := 1) rfl (by decide) (by decide) (by decide) (by decide) all0 rfl ?_
  intro T12 h12 v12 X12 K12 hQ12
  obtain rfl := hQ12
  show OGo _ _ _ _ T12 (mkF m 20 #[.val (.ref a), .val (.ref u), .val (.ref v)] [(.ref v), (.ref a)])
  have f13 := q4.keep K3
  have f14 := f13.keep K10
  have f15 := f14.keep K12
  refine own_cast X12 23 d13_20 (hw _ (List.mem_of_getElem? (i := 65) rfl)) (Ins.self f15) rfl ?_
  intro T16 X17
  have f18 := f11.keep K12 nin0
  have f19 := f8.keep K10
  have f20 := f19.keep K12
  have f21 := F10.keep K12 nin0
  refine own_put X17 26 d13_23 (host := "") (Or.inl (hw _ (List.mem_of_getElem? (i := 68) rfl))) Via.refl f18 f20 (Or.inr ⟨(hw _ (List.mem_of_getElem? (i := 69) rfl)), rfl, hnm⟩) (hw _ (List.mem_of_getElem? (i := 55) rfl)) (ty := (.object "java/lang/String")) (by decide) rfl rfl (List.mem_of_getElem? (i := 0) rfl) rfl ?_
  intro T22 h22 X22 W22 K22 F22
  have f23 := Fld.other W22 f21 (Or.inr (slot_ne (Or.inr (hw _ (List.mem_of_getElem? (i := 67) rfl))) (Or.inr (hw _ (List.mem_of_getElem? (i := 69) rfl))) (by decide) (t := (.object "java/lang/String")) (t' := (.object "java/lang/String")) (by decide) (by decide)))
  refine own_retV X22 d13_26 hret (by decide) (by decide) ?_
  exact ⟨rfl, f23, F22⟩
set_option maxRecDepth 65536 in
set_option maxHeartbeats 40000000 in
theorem rm_eqN (l : Launch) (Z : State) (a0 : Array Value) (hw : ∀ d ∈ tables_1, d.before a0 Z = true) (n0 : Nat) (h0 : Heap) (hWd : OWorld Z a0) (wc : List Jvm.Cond) (O0 : Old Z n0 h0) (a : Addr)  :
    OMet l Z own_EL n0 (⟨"com/example/chitragupta/chitragupta/model/HelpdeskSite", "equals", "(Ljava/lang/Object;)Z"⟩ : MethodName) (Jvm.Cond.code (⟨"com/example/chitragupta/chitragupta/model/HelpdeskSite", "equals", "(Ljava/lang/Object;)Z"⟩ : MethodName) prog_26_method_4_code 3 (some .boolean) :: wc) ({ frames := 0, cells := 0, slots := 0, locals := 0 } : Room) #[(.ref a), .null] h0 [] (fun vq hq => vq = some (.int (0 : Int32))) := by
  refine own_enter #[.val (.ref a), .val .null, .unset] pn_com_example_chitragupta_chitragupta_model_HelpdeskSite_equals__Ljava_lang_Object__Z (ef_rm_eqN a) hWd.1 O0 all0 ?_
  intro p e s m below meth c T0 X0 hnm hret
  refine og_aloadN X0 1 d15_0 rfl rfl rfl ?_
  refine own_instNull X0 4 d15_1 rfl ?_
  refine og_ifY X0 44 d15_4 (XT.i0_eq_t (by decide)) (by decide) (by decide) ?_
  refine og_iconst X0 45 (0 : Int32) d15_44 rfl rfl ?_
  refine own_retZ X0 d15_45 hret rfl (by decide) (by decide) ?_
  exact rfl
set_option maxRecDepth 65536 in
set_option maxHeartbeats 40000000 in
theorem rm_eqS (l : Launch) (Z : State) (a0 : Array Value) (hw : ∀ d ∈ tables_1, d.before a0 Z = true) (n0 : Nat) (h0 : Heap) (hWd : OWorld Z a0) (wc : List Jvm.Cond) (O0 : Old Z n0 h0) (a : Addr) (b : Addr) (q0 : Exa Z h0 b "java/lang/String") :
    OMet l Z own_EL n0 (⟨"com/example/chitragupta/chitragupta/model/HelpdeskSite", "equals", "(Ljava/lang/Object;)Z"⟩ : MethodName) (Jvm.Cond.code (⟨"com/example/chitragupta/chitragupta/model/HelpdeskSite", "equals", "(Ljava/lang/Object;)Z"⟩ : MethodName) prog_26_method_4_code 3 (some .boolean) :: wc) ({ frames := 0, cells := 0, slots := 0, locals := 0 } : Room) #[(.ref a), (.ref b)] h0 [] (fun vq hq => vq = some (.int (0 : Int32))) := by
  refine own_enter #[.val (.ref a), .val (.ref b), .unset] pn_com_example_chitragupta_chitragupta_model_HelpdeskSite_equals__Ljava_lang_Object__Z (ef_rm_eqS a b) hWd.1 O0 all0 ?_
  intro p e s m below meth c T0 X0 hnm hret
  refine og_aloadN X0 1 d15_0 rfl rfl rfl ?_
  refine own_instNo X0 4 d15_1 (hw _ (List.mem_of_getElem? (i := 75) rfl)) q0 (own_nsNo (hw _ (List.mem_of_getElem? (i := 85) rfl)) (hw _ (List.mem_of_getElem? (i := 55) rfl)) (NS.step (hw _ (List.mem_of_getElem? (i := 85) rfl)) (own_nsRoot (hw _ (List.mem_of_getElem? (i := 86) rfl)) (hw _ (List.mem_of_getElem? (i := 55) rfl)) (by decide)) (by decide)) (by decide)) rfl ?_
  intro T1 X2
  refine og_ifY X2 44 d15_4 (XT.i0_eq_t (by decide)) (by decide) (by decide) ?_
  refine og_iconst X2 45 (0 : Int32) d15_44 rfl rfl ?_
  refine own_retZ X2 d15_45 hret rfl (by decide) (by decide) ?_
  exact rfl
set_option maxRecDepth 65536 in
set_option maxHeartbeats 40000000 in
theorem rm_eqK (l : Launch) (Z : State) (a0 : Array Value) (hw : ∀ d ∈ tables_1, d.before a0 Z = true) (n0 : Nat) (h0 : Heap) (hWd : OWorld Z a0) (wc : List Jvm.Cond) (O0 : Old Z n0 h0) (a : Addr) (b : Addr) (u : Addr) (v : Addr) (u2 : Addr) (v2 : Addr) (cu : List Int32) (cv : List Int32) (du : List Int32) (dv : List Int32) (q0 : Exa Z h0 b "com/example/chitragupta/chitragupta/model/HelpdeskSite") (q1 : Fld Z h0 a "com/example/chitragupta/chitragupta/model/HelpdeskSite" "kind" "Ljava/lang/String;" (.ref u)) (q2 : Fld Z h0 a "com/example/chitragupta/chitragupta/model/HelpdeskSite" "url" "Ljava/lang/String;" (.ref v)) (q3 : Fld Z h0 b "com/example/chitragupta/chitragupta/model/HelpdeskSite" "kind" "Ljava/lang/String;" (.ref u2)) (q4 : Fld Z h0 b "com/example/chitragupta/chitragupta/model/HelpdeskSite" "url" "Ljava/lang/String;" (.ref v2)) (q5 : OStr Z h0 u cu h0.size) (q6 : OStr Z h0 v cv h0.size) (q7 : OStr Z h0 u2 du h0.size) (q8 : OStr Z h0 v2 dv h0.size) :
    OMet l Z own_EL n0 (⟨"com/example/chitragupta/chitragupta/model/HelpdeskSite", "equals", "(Ljava/lang/Object;)Z"⟩ : MethodName) (Jvm.Cond.code (⟨"com/example/chitragupta/chitragupta/model/HelpdeskSite", "equals", "(Ljava/lang/Object;)Z"⟩ : MethodName) prog_26_method_4_code 3 (some .boolean) :: wc) ({ frames := 2, cells := 0, slots := 0, locals := 28 } : Room) #[(.ref a), (.ref b)] h0 [] (fun vq hq => vq = some (.int (own_eq2 cu cv du dv))) := by
  refine own_enter #[.val (.ref a), .val (.ref b), .unset] pn_com_example_chitragupta_chitragupta_model_HelpdeskSite_equals__Ljava_lang_Object__Z (ef_rm_eqK a b u v u2 v2 cu cv du dv) hWd.1 O0 all0 ?_
  intro p e s m below meth c T0 X0 hnm hret
  refine og_aloadN X0 1 d15_0 rfl rfl rfl ?_
  refine own_instY X0 4 d15_1 (hw _ (List.mem_of_getElem? (i := 75) rfl)) (Ins.self q0) rfl ?_
  intro T1 X2
  refine og_ifN X2 7 d15_4 (XT.i0_eq_f (by decide)) rfl ?_
  refine og_aloadN X2 8 d15_7 rfl rfl rfl ?_
  refine own_cast X2 11 d15_8 (hw _ (List.mem_of_getElem? (i := 75) rfl)) (Ins.self q0) rfl ?_
  intro T3 X4
  refine og_astoreN X4 12 #[.val (.ref a), .val (.ref b), .val (.ref b)] d15_11 rfl rfl rfl ?_
  refine og_aloadN X4 13 d15_12 rfl rfl rfl ?_
  refine own_get X4 16 d15_13 (host := "") (Or.inl (hw _ (List.mem_of_getElem? (i := 66) rfl))) Via.refl q1 rfl ?_
  intro T5 X6
  refine og_aloadN X6 17 d15_16 rfl rfl rfl ?_
  refine own_get X6 20 d15_17 (host := "") (Or.inl (hw _ (List.mem_of_getElem? (i := 66) rfl))) Via.refl q3 rfl ?_
  intro T7 X8
  refine own_strEq X8 23 d15_20 q5 q7 (own_wE hw) (hw _ (List.mem_of_getElem? (i := 5) rfl)) hWd.2.1 hWd.2.2 (hw _ (List.mem_of_getElem? (i := 77) rfl)) (hw _ (List.mem_of_getElem? (i := 78) rfl)) (hw _ (List.mem_of_getElem? (i := 80) rfl)) (hw _ (List.mem_of_getElem? (i := 79) rfl)) rfl (W := 0) rfl (by decide) (by decide) (by decide) (by decide) rfl ?_
  intro T9 X10
  by_cases hc11 : (own_eqb cu du) = 0
  · -- (own_eqb cu du) = 0
    refine og_ifY X10 44 d15_23 (XT.i0_eq_t hc11) (by decide) (by decide) ?_
    refine og_iconst X10 45 (0 : Int32) d15_44 rfl rfl ?_
    refine own_retZ X10 d15_45 hret rfl (by decide) (by decide) ?_
    simp_all [own_eq2, own_eqb]
  · -- not
    refine og_ifN X10 26 d15_23 (XT.i0_eq_f hc11) rfl ?_
    refine og_aloadN X10 27 d15_26 rfl rfl rfl ?_
    refine own_get X10 30 d15_27 (host := "") (Or.inl (hw _ (List.mem_of_getElem? (i := 68) rfl))) Via.refl q2 rfl ?_
    intro T12 X13
    refine og_aloadN X13 31 d15_30 rfl rfl rfl ?_
    refine own_get X13 34 d15_31 (host := "") (Or.inl (hw _ (List.mem_of_getElem? (i := 68) rfl))) Via.refl q4 rfl ?_
    intro T14 X15
    refine own_strEq X15 37 d15_34 q6 q8 (own_wE hw) (hw _ (List.mem_of_getElem? (i := 5) rfl)) hWd.2.1 hWd.2.2 (hw _ (List.mem_of_getElem? (i := 77) rfl)) (hw _ (List.mem_of_getElem? (i := 78) rfl)) (hw _ (List.mem_of_getElem? (i := 80) rfl)) (hw _ (List.mem_of_getElem? (i := 79) rfl)) rfl (W := 0) rfl (by decide) (by decide) (by decide) (by decide) rfl ?_
    intro T16 X17
    by_cases hc18 : (own_eqb cv dv) = 0
    · -- (own_eqb cv dv) = 0
      refine og_ifY X17 44 d15_37 (XT.i0_eq_t hc18) (by decide) (by decide) ?_
      refine og_iconst X17 45 (0 : Int32) d15_44 rfl rfl ?_
      refine own_retZ X17 d15_45 hret rfl (by decide) (by decide) ?_
      simp_all [own_eq2, own_eqb]
    · -- not
      refine og_ifN X17 40 d15_37 (XT.i0_eq_f hc18) rfl ?_
      refine og_iconst X17 41 (1 : Int32) d15_40 rfl rfl ?_
      refine og_goto X17 45 d15_41 (by decide) (by decide) ?_
      refine own_retZ X17 d15_45 hret rfl (by decide) (by decide) ?_
      simp_all [own_eq2, own_eqb]
set_option maxRecDepth 65536 in
set_option maxHeartbeats 40000000 in
theorem rm0 (l : Launch) (Z : State) (a0 : Array Value) (hw : ∀ d ∈ tables_1, d.before a0 Z = true) (n0 : Nat) (h0 : Heap) (hWd : OWorld Z a0) (wc : List Jvm.Cond) (O0 : Old Z n0 h0) (k1 : Int32) (u1 : Int32) (k2 : Int32) (u2 : Int32) (pm : Int32)  :
    OMet l Z own_EL n0 x (Jvm.Cond.code x code maxLocals ret :: wc) room_1 #[(.int k1), (.int u1), (.int k2), (.int u2), (.int pm)] h0 [] (fun vq hq => vq = some (.int (1 : Int32))) := by
  refine own_enter #[.val (.int k1), .val (.int u1), .val (.int k2), .val (.int u2), .val (.int pm), .unset, .unset, .unset, .unset, .unset, .unset, .unset, .unset, .unset, .unset, .unset, .unset, .unset, .unset] pn_com_example_chitragupta_chitragupta_model_HelpdeskSiteEqualsPinLaw_law__IIIII_Z (ef_rm0 k1 u1 k2 u2 pm) hWd.1 O0 all0 ?_
  intro p e s m below meth c T0 X0 hnm hret
  refine og_iload X0 2 at_0 rfl rfl ?_
  refine og_iconst X0 3 (1 : Int32) at_2 rfl rfl ?_
  refine og_iand X0 4 at_3 rfl ?_
  by_cases hc1 : (pm &&& (1 : Int32)) = 0
  · -- (pm &&& (1 : Int32)) = 0
    refine og_ifY X0 11 at_4 (XT.i0_eq_t hc1) (by decide) (by decide) ?_
    refine og_iconst X0 12 (0 : Int32) at_11 rfl rfl ?_
    refine og_istore X0 14 #[.val (.int k1), .val (.int u1), .val (.int k2), .val (.int u2), .val (.int pm), .val (.int (0 : Int32)), .unset, .unset, .unset, .unset, .unset, .unset, .unset, .unset, .unset, .unset, .unset, .unset, .unset] at_12 rfl rfl ?_
    refine og_iload X0 16 at_14 rfl rfl ?_
    refine og_iconst X0 17 (2 : Int32) at_16 rfl rfl ?_
    refine og_iand X0 18 at_17 rfl ?_
    by_cases hc2 : (pm &&& (2 : Int32)) = 0
    · -- (pm &&& (2 : Int32)) = 0
      refine og_ifY X0 25 at_18 (XT.i0_eq_t hc2) (by decide) (by decide) ?_
      refine og_iconst X0 26 (0 : Int32) at_25 rfl rfl ?_
      refine og_istore X0 28 #[.val (.int k1), .val (.int u1), .val (.int k2), .val (.int u2), .val (.int pm), .val (.int (0 : Int32)), .val (.int (0 : Int32)), .unset, .unset, .unset, .unset, .unset, .unset, .unset, .unset, .unset, .unset, .unset, .unset] at_26 rfl rfl ?_
      refine og_iload X0 30 at_28 rfl rfl ?_
      refine og_iconst X0 31 (2 : Int32) at_30 rfl rfl ?_
      refine og_iushr X0 32 at_31 rfl ?_
      refine og_iconst X0 33 (3 : Int32) at_32 rfl rfl ?_
      refine og_iand X0 34 at_33 rfl ?_
      refine og_istore X0 36 #[.val (.int k1), .val (.int u1), .val (.int k2), .val (.int u2), .val (.int pm), .val (.int (0 : Int32)), .val (.int (0 : Int32)), .val (.int ((XT.ushr pm (2 : Int32)) &&& (3 : Int32))), .unset, .unset, .unset, .unset, .unset, .unset, .unset, .unset, .unset, .unset, .unset] at_34 rfl rfl ?_
      refine og_iloadN X0 37 at_36 rfl rfl ?_
      refine own_stat X0 40 (argsL := [(.int k1)]) (rest := []) at_37 (rm1 l Z a0 hw n0 h0 hWd [] X0.old k1  ) (hw _ (List.mem_of_getElem? (i := 0) rfl)) (hw _ (List.mem_of_getElem? (i := 1) rfl)) (hw _ (List.mem_of_getElem? (i := 2) rfl)) (hw _ (List.mem_of_getElem? (i := 3) rfl)) (by decide) (lenOf pd__28I_29Ljava_2flang_2fString_3b rfl) rfl rfl rfl (W := 0) rfl (by decide) (by decide) (by decide) (by decide) all0 rfl ?_
      intro T3 h3 v3 X3 K3 hQ3
      obtain ⟨r3, rfl, ge_r3, f4⟩ := hQ3
      show OGo _ _ _ _ T3 (mkF m 40 #[.val (.int k1), .val (.int u1), .val (.int k2), .val (.int u2), .val (.int pm), .val (.int (0 : Int32)), .val (.int (0 : Int32)), .val (.int ((XT.ushr pm (2 : Int32)) &&& (3 : Int32))), .unset, .unset, .unset, .unset, .unset, .unset, .unset, .unset, .unset, .unset, .unset] [(.ref r3)])
      refine og_astore X3 42 #[.val (.int k1), .val (.int u1), .val (.int k2), .val (.int u2), .val (.int pm), .val (.int (0 : Int32)), .val (.int (0 : Int32)), .val (.int ((XT.ushr pm (2 : Int32)) &&& (3 : Int32))), .val (.ref r3), .unset, .unset, .unset, .unset, .unset, .unset, .unset, .unset, .unset, .unset] at_40 rfl rfl rfl ?_
      refine og_iloadN X3 43 at_42 rfl rfl ?_
      refine own_stat X3 46 (argsL := [(.int u1)]) (rest := []) at_43 (rm1 l Z a0 hw n0 h3 hWd [] X3.old u1  ) (hw _ (List.mem_of_getElem? (i := 0) rfl)) (hw _ (List.mem_of_getElem? (i := 1) rfl)) (hw _ (List.mem_of_getElem? (i := 2) rfl)) (hw _ (List.mem_of_getElem? (i := 3) rfl)) (by decide) (lenOf pd__28I_29Ljava_2flang_2fString_3b rfl) rfl rfl rfl (W := 0) rfl (by decide) (by decide) (by decide) (by decide) all0 rfl ?_
      intro T5 h5 v5 X5 K5 hQ5
      obtain ⟨r5, rfl, ge_r5, f6⟩ := hQ5
      show OGo _ _ _ _ T5 (mkF m 46 #[.val (.int k1), .val (.int u1), .val (.int k2), .val (.int u2), .val (.int pm), .val (.int (0 : Int32)), .val (.int (0 : Int32)), .val (.int ((XT.ushr pm (2 : Int32)) &&& (3 : Int32))), .val (.ref r3), .unset, .unset, .unset, .unset, .unset, .unset, .unset, .unset, .unset, .unset] [(.ref r5)])
      refine og_astore X5 48 #[.val (.int k1), .val (.int u1), .val (.int k2), .val (.int u2), .val (.int pm), .val (.int (0 : Int32)), .val (.int (0 : Int32)), .val (.int ((XT.ushr pm (2 : Int32)) &&& (3 : Int32))), .val (.ref r3), .val (.ref r5), .unset, .unset, .unset, .unset, .unset, .unset, .unset, .unset, .unset] at_46 rfl rfl rfl ?_
      refine og_iload X5 50 at_48 rfl rfl ?_
      refine og_ifY X5 60 at_50 (XT.i0_eq_t (by decide)) (by decide) (by decide) ?_
      refine og_iloadN X5 61 at_60 rfl rfl ?_
      refine own_stat X5 64 (argsL := [(.int k2)]) (rest := []) at_61 (rm1 l Z a0 hw n0 h5 hWd [] X5.old k2  ) (hw _ (List.mem_of_getElem? (i := 0) rfl)) (hw _ (List.mem_of_getElem? (i := 1) rfl)) (hw _ (List.mem_of_getElem? (i := 2) rfl)) (hw _ (List.mem_of_getElem? (i := 3) rfl)) (by decide) (lenOf pd__28I_29Ljava_2flang_2fString_3b rfl) rfl rfl rfl (W := 0) rfl (by decide) (by decide) (by decide) (by decide) all0 rfl ?_
      intro T7 h7 v7 X7 K7 hQ7
      obtain ⟨r7, rfl, ge_r7, f8⟩ := hQ7
      show OGo _ _ _ _ T7 (mkF m 64 #[.val (.int k1), .val (.int u1), .val (.int k2), .val (.int u2), .val (.int pm), .val (.int (0 : Int32)), .val (.int (0 : Int32)), .val (.int ((XT.ushr pm (2 : Int32)) &&& (3 : Int32))), .val (.ref r3), .val (.ref r5), .unset, .unset, .unset, .unset, .unset, .unset, .unset, .unset, .unset] [(.ref r7)])
      refine og_astore X7 66 #[.val (.int k1), .val (.int u1), .val (.int k2), .val (.int u2), .val (.int pm), .val (.int (0 : Int32)), .val (.int (0 : Int32)), .val (.int ((XT.ushr pm (2 : Int32)) &&& (3 : Int32))), .val (.ref r3), .val (.ref r5), .val (.ref r7), .unset, .unset, .unset, .unset, .unset, .unset, .unset, .unset] at_64 rfl rfl rfl ?_
      refine og_iload X7 68 at_66 rfl rfl ?_
      refine og_ifY X7 78 at_68 (XT.i0_eq_t (by decide)) (by decide) (by decide) ?_
      refine og_iloadN X7 79 at_78 rfl rfl ?_
      refine own_stat X7 82 (argsL := [(.int u2)]) (rest := []) at_79 (rm1 l Z a0 hw n0 h7 hWd [] X7.old u2  ) (hw _ (List.mem_of_getElem? (i := 0) rfl)) (hw _ (List.mem_of_getElem? (i := 1) rfl)) (hw _ (List.mem_of_getElem? (i := 2) rfl)) (hw _ (List.mem_of_getElem? (i := 3) rfl)) (by decide) (lenOf pd__28I_29Ljava_2flang_2fString_3b rfl) rfl rfl rfl (W := 0) rfl (by decide) (by decide) (by decide) (by decide) all0 rfl ?_
      intro T9 h9 v9 X9 K9 hQ9
      obtain ⟨r9, rfl, ge_r9, f10⟩ := hQ9
      show OGo _ _ _ _ T9 (mkF m 82 #[.val (.int k1), .val (.int u1), .val (.int k2), .val (.int u2), .val (.int pm), .val (.int (0 : Int32)), .val (.int (0 : Int32)), .val (.int ((XT.ushr pm (2 : Int32)) &&& (3 : Int32))), .val (.ref r3), .val (.ref r5), .val (.ref r7), .unset, .unset, .unset, .unset, .unset, .unset, .unset, .unset] [(.ref r9)])
      refine og_astore X9 84 #[.val (.int k1), .val (.int u1), .val (.int k2), .val (.int u2), .val (.int pm), .val (.int (0 : Int32)), .val (.int (0 : Int32)), .val (.int ((XT.ushr pm (2 : Int32)) &&& (3 : Int32))), .val (.ref r3), .val (.ref r5), .val (.ref r7), .val (.ref r9), .unset, .unset, .unset, .unset, .unset, .unset, .unset] at_82 rfl rfl rfl ?_
      refine og_iload X9 86 at_84 rfl rfl ?_
      refine og_ifN X9 89 at_86 (XT.i0_ne_f (by decide)) rfl ?_
      refine og_iloadN X9 90 at_89 rfl rfl ?_
      refine og_iloadN X9 91 at_90 rfl rfl ?_
      refine own_stat X9 94 (argsL := [(.int k1), (.int k2)]) (rest := []) at_91 (rm12 l Z a0 hw n0 h9 hWd [] X9.old k1 k2  ) (hw _ (List.mem_of_getElem? (i := 51) rfl)) (hw _ (List.mem_of_getElem? (i := 52) rfl)) (hw _ (List.mem_of_getElem? (i := 2) rfl)) (hw _ (List.mem_of_getElem? (i := 53) rfl)) (by decide) (lenOf pd__28II_29Z rfl) rfl rfl rfl (W := 0) rfl (by decide) (by decide) (by decide) (by decide) all0 rfl ?_
      intro T11 h11 v11 X11 K11 hQ11
      obtain rfl := hQ11
      show OGo _ _ _ _ T11 (mkF m 94 #[.val (.int k1), .val (.int u1), .val (.int k2), .val (.int u2), .val (.int pm), .val (.int (0 : Int32)), .val (.int (0 : Int32)), .val (.int ((XT.ushr pm (2 : Int32)) &&& (3 : Int32))), .val (.ref r3), .val (.ref r5), .val (.ref r7), .val (.ref r9), .unset, .unset, .unset, .unset, .unset, .unset, .unset] [(.int (own_eqb (own_mk k1) (own_mk k2)))])
      by_cases hc12 : (own_eqb (own_mk k1) (own_mk k2)) = 0
      · -- (own_eqb (own_mk k1) (own_mk k2)) = 0
        refine og_ifY X11 101 at_94 (XT.i0_eq_t hc12) (by decide) (by decide) ?_
        refine og_iconst X11 102 (0 : Int32) at_101 rfl rfl ?_
        refine og_istore X11 104 #[.val (.int k1), .val (.int u1), .val (.int k2), .val (.int u2), .val (.int pm), .val (.int (0 : Int32)), .val (.int (0 : Int32)), .val (.int ((XT.ushr pm (2 : Int32)) &&& (3 : Int32))), .val (.ref r3), .val (.ref r5), .val (.ref r7), .val (.ref r9), .val (.int (0 : Int32)), .unset, .unset, .unset, .unset, .unset, .unset] at_102 rfl rfl ?_
        refine og_iload X11 106 at_104 rfl rfl ?_
        refine og_ifN X11 109 at_106 (XT.i0_ne_f (by decide)) rfl ?_
        refine og_iloadN X11 110 at_109 rfl rfl ?_
        refine og_iloadN X11 111 at_110 rfl rfl ?_
        refine own_stat X11 114 (argsL := [(.int u1), (.int u2)]) (rest := []) at_111 (rm12 l Z a0 hw n0 h11 hWd [] X11.old u1 u2  ) (hw _ (List.mem_of_getElem? (i := 51) rfl)) (hw _ (List.mem_of_getElem? (i := 52) rfl)) (hw _ (List.mem_of_getElem? (i := 2) rfl)) (hw _ (List.mem_of_getElem? (i := 53) rfl)) (by decide) (lenOf pd__28II_29Z rfl) rfl rfl rfl (W := 0) rfl (by decide) (by decide) (by decide) (by decide) all0 rfl ?_
        intro T13 h13 v13 X13 K13 hQ13
        obtain rfl := hQ13
        show OGo _ _ _ _ T13 (mkF m 114 #[.val (.int k1), .val (.int u1), .val (.int k2), .val (.int u2), .val (.int pm), .val (.int (0 : Int32)), .val (.int (0 : Int32)), .val (.int ((XT.ushr pm (2 : Int32)) &&& (3 : Int32))), .val (.ref r3), .val (.ref r5), .val (.ref r7), .val (.ref r9), .val (.int (0 : Int32)), .unset, .unset, .unset, .unset, .unset, .unset] [(.int (own_eqb (own_mk u1) (own_mk u2)))])
        by_cases hc14 : (own_eqb (own_mk u1) (own_mk u2)) = 0
        · -- (own_eqb (own_mk u1) (own_mk u2)) = 0
          refine og_ifY X13 121 at_114 (XT.i0_eq_t hc14) (by decide) (by decide) ?_
          refine og_iconst X13 122 (0 : Int32) at_121 rfl rfl ?_
          refine og_istore X13 124 #[.val (.int k1), .val (.int u1), .val (.int k2), .val (.int u2), .val (.int pm), .val (.int (0 : Int32)), .val (.int (0 : Int32)), .val (.int ((XT.ushr pm (2 : Int32)) &&& (3 : Int32))), .val (.ref r3), .val (.ref r5), .val (.ref r7), .val (.ref r9), .val (.int (0 : Int32)), .val (.int (0 : Int32)), .unset, .unset, .unset, .unset, .unset] at_122 rfl rfl ?_
          refine own_new X13 127 at_124 (hw _ (List.mem_of_getElem? (i := 54) rfl)) (hw _ (List.mem_of_getElem? (i := 55) rfl)) (hw _ (List.mem_of_getElem? (i := 56) rfl)) (by decide) (by decide) rfl ?_
          intro T15 h15 b15 X15 K15 G15 U15 E15 D15
          have f16 : Fld Z h15 b15 "com/example/chitragupta/chitragupta/model/HelpdeskSite" "kind" "Ljava/lang/String;" .null := D15 (Or.inr (hw _ (List.mem_of_getElem? (i := 67) rfl))) (ty := (.object "java/lang/String")) (by decide)
          have f17 : Fld Z h15 b15 "com/example/chitragupta/chitragupta/model/HelpdeskSite" "url" "Ljava/lang/String;" .null := D15 (Or.inr (hw _ (List.mem_of_getElem? (i := 69) rfl))) (ty := (.object "java/lang/String")) (by decide)
          refine og_dup X15 128 at_127 rfl rfl ?_
          refine og_aload X15 130 at_128 rfl rfl rfl ?_
          refine og_aload X15 132 at_130 rfl rfl rfl ?_
          have f18 := f4.exa.keep K5
          have f19 := f18.keep K7
          have f20 := f19.keep K9
          have f21 := f20.keep K11
          have f22 := f21.keep K13
          have f23 := f22.keep K15
          have f24 := f6.exa.keep K7
          have f25 := f24.keep K9
          have f26 := f25.keep K11
          have f27 := f26.keep K13
          have f28 := f27.keep K15
          refine own_spec X15 135 (a := b15) (argsL := [(.ref r3), (.ref r5)]) (rest := [(.ref b15)]) at_132 rfl (rm13 l Z a0 hw n0 h15 hWd [] X15.old b15 r3 r5 E15 f16 f17 f23 f28 (own_svb X15 (List.mem_of_getElem? (i := 0) rfl))) (hw _ (List.mem_of_getElem? (i := 57) rfl)) (hw _ (List.mem_of_getElem? (i := 58) rfl)) (hw _ (List.mem_of_getElem? (i := 56) rfl)) (hw _ (List.mem_of_getElem? (i := 59) rfl)) (by decide) (lenOf pd__28Ljava_2flang_2fString_3bLjava_2flang_2fString_3b_29V rfl) rfl rfl rfl (W := 1) rfl (by decide) (by decide) (by decide) (by decide) (allS (List.mem_of_getElem? (i := 0) rfl) all0) rfl ?_
          intro T29 h29 v29 X29 K29 hQ29
          obtain ⟨rfl, f30, f31⟩ := hQ29
          show OGo _ _ _ _ T29 (mkF m 135 #[.val (.int k1), .val (.int u1), .val (.int k2), .val (.int u2), .val (.int pm), .val (.int (0 : Int32)), .val (.int (0 : Int32)), .val (.int ((XT.ushr pm (2 : Int32)) &&& (3 : Int32))), .val (.ref r3), .val (.ref r5), .val (.ref r7), .val (.ref r9), .val (.int (0 : Int32)), .val (.int (0 : Int32)), .unset, .unset, .unset, .unset, .unset] [(.ref b15)])
          refine og_astore X29 137 #[.val (.int k1), .val (.int u1), .val (.int k2), .val (.int u2), .val (.int pm), .val (.int (0 : Int32)), .val (.int (0 : Int32)), .val (.int ((XT.ushr pm (2 : Int32)) &&& (3 : Int32))), .val (.ref r3), .val (.ref r5), .val (.ref r7), .val (.ref r9), .val (.int (0 : Int32)), .val (.int (0 : Int32)), .val (.ref b15), .unset, .unset, .unset, .unset] at_135 rfl rfl rfl ?_
          refine own_new X29 140 at_137 (hw _ (List.mem_of_getElem? (i := 54) rfl)) (hw _ (List.mem_of_getElem? (i := 55) rfl)) (hw _ (List.mem_of_getElem? (i := 56) rfl)) (by decide) (by decide) rfl ?_
          intro T32 h32 b32 X32 K32 G32 U32 E32 D32
          have f33 : Fld Z h32 b32 "com/example/chitragupta/chitragupta/model/HelpdeskSite" "kind" "Ljava/lang/String;" .null := D32 (Or.inr (hw _ (List.mem_of_getElem? (i := 67) rfl))) (ty := (.object "java/lang/String")) (by decide)
          have f34 : Fld Z h32 b32 "com/example/chitragupta/chitragupta/model/HelpdeskSite" "url" "Ljava/lang/String;" .null := D32 (Or.inr (hw _ (List.mem_of_getElem? (i := 69) rfl))) (ty := (.object "java/lang/String")) (by decide)
          refine og_dup X32 141 at_140 rfl rfl ?_
          refine og_aload X32 143 at_141 rfl rfl rfl ?_
          refine og_aload X32 145 at_143 rfl rfl rfl ?_
          have f35 := f8.exa.keep K9
          have f36 := f35.keep K11
          have f37 := f36.keep K13
          have f38 := f37.keep K15
          have f39 := f38.keep K29
          have f40 := f39.keep K32
          have f41 := f10.exa.keep K11
          have f42 := f41.keep K13
          have f43 := f42.keep K15
          have f44 := f43.keep K29
          have f45 := f44.keep K32
          refine own_spec X32 148 (a := b32) (argsL := [(.ref r7), (.ref r9)]) (rest := [(.ref b32)]) at_145 rfl (rm13 l Z a0 hw n0 h32 hWd [] X32.old b32 r7 r9 E32 f33 f34 f40 f45 (own_svb X32 (List.mem_of_getElem? (i := 0) rfl))) (hw _ (List.mem_of_getElem? (i := 57) rfl)) (hw _ (List.mem_of_getElem? (i := 58) rfl)) (hw _ (List.mem_of_getElem? (i := 56) rfl)) (hw _ (List.mem_of_getElem? (i := 59) rfl)) (by decide) (lenOf pd__28Ljava_2flang_2fString_3bLjava_2flang_2fString_3b_29V rfl) rfl rfl rfl (W := 1) rfl (by decide) (by decide) (by decide) (by decide) (allS (List.mem_of_getElem? (i := 0) rfl) all0) rfl ?_
          intro T46 h46 v46 X46 K46 hQ46
          obtain ⟨rfl, f47, f48⟩ := hQ46
          show OGo _ _ _ _ T46 (mkF m 148 #[.val (.int k1), .val (.int u1), .val (.int k2), .val (.int u2), .val (.int pm), .val (.int (0 : Int32)), .val (.int (0 : Int32)), .val (.int ((XT.ushr pm (2 : Int32)) &&& (3 : Int32))), .val (.ref r3), .val (.ref r5), .val (.ref r7), .val (.ref r9), .val (.int (0 : Int32)), .val (.int (0 : Int32)), .val (.ref b15), .unset, .unset, .unset, .unset] [(.ref b32)])
          refine og_astore X46 150 #[.val (.int k1), .val (.int u1), .val (.int k2), .val (.int u2), .val (.int pm), .val (.int (0 : Int32)), .val (.int (0 : Int32)), .val (.int ((XT.ushr pm (2 : Int32)) &&& (3 : Int32))), .val (.ref r3), .val (.ref r5), .val (.ref r7), .val (.ref r9), .val (.int (0 : Int32)), .val (.int (0 : Int32)), .val (.ref b15), .val (.ref b32), .unset, .unset, .unset] at_148 rfl rfl rfl ?_
          refine og_iload X46 152 at_150 rfl rfl ?_
          by_cases hc49 : ((XT.ushr pm (2 : Int32)) &&& (3 : Int32)) = 0
          · -- ((XT.ushr pm (2 : Int32)) &&& (3 : Int32)) = 0
            refine og_ifN X46 155 at_152 (XT.i0_ne_f hc49) rfl ?_
            refine og_aload X46 157 at_155 rfl rfl rfl ?_
            refine og_astore X46 159 #[.val (.int k1), .val (.int u1), .val (.int k2), .val (.int u2), .val (.int pm), .val (.int (0 : Int32)), .val (.int (0 : Int32)), .val (.int ((XT.ushr pm (2 : Int32)) &&& (3 : Int32))), .val (.ref r3), .val (.ref r5), .val (.ref r7), .val (.ref r9), .val (.int (0 : Int32)), .val (.int (0 : Int32)), .val (.ref b15), .val (.ref b32), .val (.ref b32), .unset, .unset] at_157 rfl rfl rfl ?_
            refine og_iload X46 161 at_159 rfl rfl ?_
            refine og_ifY X46 173 at_161 (XT.i0_eq_t (by decide)) (by decide) (by decide) ?_
            refine og_iconst X46 174 (0 : Int32) at_173 rfl rfl ?_
            refine og_istore X46 176 #[.val (.int k1), .val (.int u1), .val (.int k2), .val (.int u2), .val (.int pm), .val (.int (0 : Int32)), .val (.int (0 : Int32)), .val (.int ((XT.ushr pm (2 : Int32)) &&& (3 : Int32))), .val (.ref r3), .val (.ref r5), .val (.ref r7), .val (.ref r9), .val (.int (0 : Int32)), .val (.int (0 : Int32)), .val (.ref b15), .val (.ref b32), .val (.ref b32), .val (.int (0 : Int32)), .unset] at_174 rfl rfl ?_
            refine og_goto X46 217 at_176 (by decide) (by decide) ?_
            refine og_aload X46 219 at_217 rfl rfl rfl ?_
            refine og_aload X46 221 at_219 rfl rfl rfl ?_
            have f50 := E15.keep K29
            have f51 := f50.keep K32
            have f52 := f51.keep K46
            have f53 := E32.keep K46
            have f54 := f30.keep K32 nin0
            have f55 := f54.keep K46 (ninS (Nat.ne_of_lt (Nat.lt_of_lt_of_le (Nat.lt_of_lt_of_le U15 K29.1) G32)) nin0)
            have f56 := f31.keep K32 nin0
            have f57 := f56.keep K46 (ninS (Nat.ne_of_lt (Nat.lt_of_lt_of_le (Nat.lt_of_lt_of_le U15 K29.1) G32)) nin0)
            have f58 := f4.keep K5 all0
            have f59 := f58.keep K7 all0
            have f60 := f59.keep K9 all0
            have f61 := f60.keep K11 all0
            have f62 := f61.keep K13 all0
            have f63 := f62.keep K15 all0
            have f64 := f63.keep K29 (allS (Or.inl (Nat.le_trans (Nat.le_trans (Nat.le_trans (Nat.le_trans (Nat.le_trans K5.1 K7.1) K9.1) K11.1) K13.1) G15)) all0)
            have f65 := f64.keep K32 all0
            have f66 := f65.keep K46 (allS (Or.inl (Nat.le_trans (Nat.le_trans (Nat.le_trans (Nat.le_trans (Nat.le_trans (Nat.le_trans (Nat.le_trans K5.1 K7.1) K9.1) K11.1) K13.1) K15.1) K29.1) G32)) all0)
            have f67 := f6.keep K7 all0
            have f68 := f67.keep K9 all0
            have f69 := f68.keep K11 all0
            have f70 := f69.keep K13 all0
            have f71 := f70.keep K15 all0
            have f72 := f71.keep K29 (allS (Or.inl (Nat.le_trans (Nat.le_trans (Nat.le_trans (Nat.le_trans K7.1 K9.1) K11.1) K13.1) G15)) all0)
            have f73 := f72.keep K32 all0
            have f74 := f73.keep K46 (allS (Or.inl (Nat.le_trans (Nat.le_trans (Nat.le_trans (Nat.le_trans (Nat.le_trans (Nat.le_trans K7.1 K9.1) K11.1) K13.1) K15.1) K29.1) G32)) all0)
            have f75 := f8.keep K9 all0
            have f76 := f75.keep K11 all0
            have f77 := f76.keep K13 all0
            have f78 := f77.keep K15 all0
            have f79 := f78.keep K29 (allS (Or.inl (Nat.le_trans (Nat.le_trans (Nat.le_trans K9.1 K11.1) K13.1) G15)) all0)
            have f80 := f79.keep K32 all0
            have f81 := f80.keep K46 (allS (Or.inl (Nat.le_trans (Nat.le_trans (Nat.le_trans (Nat.le_trans (Nat.le_trans K9.1 K11.1) K13.1) K15.1) K29.1) G32)) all0)
            have f82 := f10.keep K11 all0
            have f83 := f82.keep K13 all0
            have f84 := f83.keep K15 all0
            have f85 := f84.keep K29 (allS (Or.inl (Nat.le_trans (Nat.le_trans K11.1 K13.1) G15)) all0)
            have f86 := f85.keep K32 all0
            have f87 := f86.keep K46 (allS (Or.inl (Nat.le_trans (Nat.le_trans (Nat.le_trans (Nat.le_trans K11.1 K13.1) K15.1) K29.1) G32)) all0)
            refine own_virt X46 224 (a := b15) (argsL := [(.ref b32)]) (rest := []) at_221 f52 (fun _ hZ => notFace_of_selects (args := #[]) (mvT hZ (hw _ (List.mem_of_getElem? (i := 73) rfl)))) (rm_eqK l Z a0 hw n0 h46 hWd [] X46.old b15 b32 r3 r5 r7 r9 (own_mk k1) (own_mk u1) (own_mk k2) (own_mk u2) f53 f55 f57 f47 f48 f66.top f74.top f81.top f87.top ) (hw _ (List.mem_of_getElem? (i := 70) rfl)) (hw _ (List.mem_of_getElem? (i := 71) rfl)) (hw _ (List.mem_of_getElem? (i := 73) rfl)) (hw _ (List.mem_of_getElem? (i := 72) rfl)) (hw _ (List.mem_of_getElem? (i := 56) rfl)) (hw _ (List.mem_of_getElem? (i := 74) rfl)) (by decide) (lenOf pd__28Ljava_2flang_2fObject_3b_29Z rfl) rfl rfl rfl (W := 0) rfl (by decide) (by decide) (by decide) (by decide) all0 rfl ?_
            intro T88 h88 v88 X88 K88 hQ88
            obtain rfl := hQ88
            show OGo _ _ _ _ T88 (mkF m 224 #[.val (.int k1), .val (.int u1), .val (.int k2), .val (.int u2), .val (.int pm), .val (.int (0 : Int32)), .val (.int (0 : Int32)), .val (.int ((XT.ushr pm (2 : Int32)) &&& (3 : Int32))), .val (.ref r3), .val (.ref r5), .val (.ref r7), .val (.ref r9), .val (.int (0 : Int32)), .val (.int (0 : Int32)), .val (.ref b15), .val (.ref b32), .val (.ref b32), .val (.int (0 : Int32)), .unset] [(.int (own_eq2 (own_mk k1) (own_mk u1) (own_mk k2) (own_mk u2)))])
            refine og_istore X88 226 #[.val (.int k1), .val (.int u1), .val (.int k2), .val (.int u2), .val (.int pm), .val (.int (0 : Int32)), .val (.int (0 : Int32)), .val (.int ((XT.ushr pm (2 : Int32)) &&& (3 : Int32))), .val (.ref r3), .val (.ref r5), .val (.ref r7), .val (.ref r9), .val (.int (0 : Int32)), .val (.int (0 : Int32)), .val (.ref b15), .val (.ref b32), .val (.ref b32), .val (.int (0 : Int32)), .val (.int (own_eq2 (own_mk k1) (own_mk u1) (own_mk k2) (own_mk u2)))] at_224 rfl rfl ?_
            refine og_iload X88 228 at_226 rfl rfl ?_
            refine og_ifN X88 231 at_228 (XT.i0_ne_f hc49) rfl ?_
            refine og_iload X88 233 at_231 rfl rfl ?_
            refine og_iload X88 235 at_233 rfl rfl ?_
            refine og_icmpN X88 238 at_235 (XT.ii_ne_f (own_eq2_0 fun q => (own_eqb0.mp hc12) q.1)) rfl ?_
            refine og_aload X88 240 at_238 rfl rfl rfl ?_
            refine og_aload X88 242 at_240 rfl rfl rfl ?_
            have f89 := f53.keep K88
            have f90 := f52.keep K88
            have f91 := f47.keep K88 nin0
            have f92 := f48.keep K88 nin0
            have f93 := f55.keep K88 nin0
            have f94 := f57.keep K88 nin0
            have f95 := f81.keep K88 all0
            have f96 := f87.keep K88 all0
            have f97 := f66.keep K88 all0
            have f98 := f74.keep K88 all0
            refine own_virt X88 245 (a := b32) (argsL := [(.ref b15)]) (rest := []) at_242 f89 (fun _ hZ => notFace_of_selects (args := #[]) (mvT hZ (hw _ (List.mem_of_getElem? (i := 73) rfl)))) (rm_eqK l Z a0 hw n0 h88 hWd [] X88.old b32 b15 r7 r9 r3 r5 (own_mk k2) (own_mk u2) (own_mk k1) (own_mk u1) f90 f91 f92 f93 f94 f95.top f96.top f97.top f98.top ) (hw _ (List.mem_of_getElem? (i := 70) rfl)) (hw _ (List.mem_of_getElem? (i := 71) rfl)) (hw _ (List.mem_of_getElem? (i := 73) rfl)) (hw _ (List.mem_of_getElem? (i := 72) rfl)) (hw _ (List.mem_of_getElem? (i := 56) rfl)) (hw _ (List.mem_of_getElem? (i := 74) rfl)) (by decide) (lenOf pd__28Ljava_2flang_2fObject_3b_29Z rfl) rfl rfl rfl (W := 0) rfl (by decide) (by decide) (by decide) (by decide) all0 rfl ?_
            intro T99 h99 v99 X99 K99 hQ99
            obtain rfl := hQ99
            show OGo _ _ _ _ T99 (mkF m 245 #[.val (.int k1), .val (.int u1), .val (.int k2), .val (.int u2), .val (.int pm), .val (.int (0 : Int32)), .val (.int (0 : Int32)), .val (.int ((XT.ushr pm (2 : Int32)) &&& (3 : Int32))), .val (.ref r3), .val (.ref r5), .val (.ref r7), .val (.ref r9), .val (.int (0 : Int32)), .val (.int (0 : Int32)), .val (.ref b15), .val (.ref b32), .val (.ref b32), .val (.int (0 : Int32)), .val (.int (own_eq2 (own_mk k1) (own_mk u1) (own_mk k2) (own_mk u2)))] [(.int (own_eq2 (own_mk k2) (own_mk u2) (own_mk k1) (own_mk u1)))])
            refine og_iload X99 247 at_245 rfl rfl ?_
            refine og_icmpN X99 250 at_247 (XT.ii_ne_f (own_eq2_0 fun q => (fun z => own_eqb0.mp hc12 z.symm) q.1)) rfl ?_
            refine og_iconst X99 251 (1 : Int32) at_250 rfl rfl ?_
            refine og_goto X99 255 at_251 (by decide) (by decide) ?_
            refine own_retZ X99 at_255 hret rfl (by decide) (by decide) ?_
            exact rfl
          · -- not
            refine og_ifY X46 179 at_152 (XT.i0_ne_t hc49) (by decide) (by decide) ?_
            refine og_iload X46 181 at_179 rfl rfl ?_
            refine og_iconst X46 182 (1 : Int32) at_181 rfl rfl ?_
            by_cases hc100 : ((XT.ushr pm (2 : Int32)) &&& (3 : Int32)) = (1 : Int32)
            · -- ((XT.ushr pm (2 : Int32)) &&& (3 : Int32)) = (1 : Int32)
              refine og_icmpN X46 185 at_182 (XT.ii_ne_f hc100) rfl ?_
              refine og_aconstNull X46 186 at_185 rfl ?_
              refine og_astore X46 188 #[.val (.int k1), .val (.int u1), .val (.int k2), .val (.int u2), .val (.int pm), .val (.int (0 : Int32)), .val (.int (0 : Int32)), .val (.int ((XT.ushr pm (2 : Int32)) &&& (3 : Int32))), .val (.ref r3), .val (.ref r5), .val (.ref r7), .val (.ref r9), .val (.int (0 : Int32)), .val (.int (0 : Int32)), .val (.ref b15), .val (.ref b32), .val .null, .unset, .unset] at_186 rfl rfl rfl ?_
              refine og_iconst X46 189 (0 : Int32) at_188 rfl rfl ?_
              refine og_istore X46 191 #[.val (.int k1), .val (.int u1), .val (.int k2), .val (.int u2), .val (.int pm), .val (.int (0 : Int32)), .val (.int (0 : Int32)), .val (.int ((XT.ushr pm (2 : Int32)) &&& (3 : Int32))), .val (.ref r3), .val (.ref r5), .val (.ref r7), .val (.ref r9), .val (.int (0 : Int32)), .val (.int (0 : Int32)), .val (.ref b15), .val (.ref b32), .val .null, .val (.int (0 : Int32)), .unset] at_189 rfl rfl ?_
              refine og_goto X46 217 at_191 (by decide) (by decide) ?_
              refine og_aload X46 219 at_217 rfl rfl rfl ?_
              refine og_aload X46 221 at_219 rfl rfl rfl ?_
              have f101 := E15.keep K29
              have f102 := f101.keep K32
              have f103 := f102.keep K46
              refine own_virt X46 224 (a := b15) (argsL := [.null]) (rest := []) at_221 f103 (fun _ hZ => notFace_of_selects (args := #[]) (mvT hZ (hw _ (List.mem_of_getElem? (i := 73) rfl)))) (rm_eqN l Z a0 hw n0 h46 hWd [] X46.old b15  ) (hw _ (List.mem_of_getElem? (i := 70) rfl)) (hw _ (List.mem_of_getElem? (i := 71) rfl)) (hw _ (List.mem_of_getElem? (i := 73) rfl)) (hw _ (List.mem_of_getElem? (i := 72) rfl)) (hw _ (List.mem_of_getElem? (i := 56) rfl)) (hw _ (List.mem_of_getElem? (i := 74) rfl)) (by decide) (lenOf pd__28Ljava_2flang_2fObject_3b_29Z rfl) rfl rfl rfl (W := 0) rfl (by decide) (by decide) (by decide) (by decide) all0 rfl ?_
              intro T104 h104 v104 X104 K104 hQ104
              obtain rfl := hQ104
              show OGo _ _ _ _ T104 (mkF m 224 #[.val (.int k1), .val (.int u1), .val (.int k2), .val (.int u2), .val (.int pm), .val (.int (0 : Int32)), .val (.int (0 : Int32)), .val (.int ((XT.ushr pm (2 : Int32)) &&& (3 : Int32))), .val (.ref r3), .val (.ref r5), .val (.ref r7), .val (.ref r9), .val (.int (0 : Int32)), .val (.int (0 : Int32)), .val (.ref b15), .val (.ref b32), .val .null, .val (.int (0 : Int32)), .unset] [(.int (0 : Int32))])
              refine og_istore X104 226 #[.val (.int k1), .val (.int u1), .val (.int k2), .val (.int u2), .val (.int pm), .val (.int (0 : Int32)), .val (.int (0 : Int32)), .val (.int ((XT.ushr pm (2 : Int32)) &&& (3 : Int32))), .val (.ref r3), .val (.ref r5), .val (.ref r7), .val (.ref r9), .val (.int (0 : Int32)), .val (.int (0 : Int32)), .val (.ref b15), .val (.ref b32), .val .null, .val (.int (0 : Int32)), .val (.int (0 : Int32))] at_224 rfl rfl ?_
              refine og_iload X104 228 at_226 rfl rfl ?_
              refine og_ifY X104 256 at_228 (XT.i0_ne_t hc49) (by decide) (by decide) ?_
              refine og_iload X104 258 at_256 rfl rfl ?_
              refine og_iload X104 260 at_258 rfl rfl ?_
              refine og_icmpN X104 263 at_260 (XT.ii_ne_f (by decide)) rfl ?_
              refine og_iconst X104 264 (1 : Int32) at_263 rfl rfl ?_
              refine og_goto X104 268 at_264 (by decide) (by decide) ?_
              refine own_retZ X104 at_268 hret rfl (by decide) (by decide) ?_
              exact rfl
            · -- not
              refine og_icmpY X46 194 at_182 (XT.ii_ne_t hc100) (by decide) (by decide) ?_
              refine og_iload X46 196 at_194 rfl rfl ?_
              refine og_iconst X46 197 (2 : Int32) at_196 rfl rfl ?_
              by_cases hc105 : ((XT.ushr pm (2 : Int32)) &&& (3 : Int32)) = (2 : Int32)
              · -- ((XT.ushr pm (2 : Int32)) &&& (3 : Int32)) = (2 : Int32)
                refine og_icmpN X46 200 at_197 (XT.ii_ne_f hc105) rfl ?_
                refine og_aload X46 202 at_200 rfl rfl rfl ?_
                refine og_astore X46 204 #[.val (.int k1), .val (.int u1), .val (.int k2), .val (.int u2), .val (.int pm), .val (.int (0 : Int32)), .val (.int (0 : Int32)), .val (.int ((XT.ushr pm (2 : Int32)) &&& (3 : Int32))), .val (.ref r3), .val (.ref r5), .val (.ref r7), .val (.ref r9), .val (.int (0 : Int32)), .val (.int (0 : Int32)), .val (.ref b15), .val (.ref b32), .val (.ref r7), .unset, .unset] at_202 rfl rfl rfl ?_
                refine og_iconst X46 205 (0 : Int32) at_204 rfl rfl ?_
                refine og_istore X46 207 #[.val (.int k1), .val (.int u1), .val (.int k2), .val (.int u2), .val (.int pm), .val (.int (0 : Int32)), .val (.int (0 : Int32)), .val (.int ((XT.ushr pm (2 : Int32)) &&& (3 : Int32))), .val (.ref r3), .val (.ref r5), .val (.ref r7), .val (.ref r9), .val (.int (0 : Int32)), .val (.int (0 : Int32)), .val (.ref b15), .val (.ref b32), .val (.ref r7), .val (.int (0 : Int32)), .unset] at_205 rfl rfl ?_
                refine og_goto X46 217 at_207 (by decide) (by decide) ?_
                refine og_aload X46 219 at_217 rfl rfl rfl ?_
                refine og_aload X46 221 at_219 rfl rfl rfl ?_
                have f106 := E15.keep K29
                have f107 := f106.keep K32
                have f108 := f107.keep K46
                have f109 := f40.keep K46
                refine own_virt X46 224 (a := b15) (argsL := [(.ref r7)]) (rest := []) at_221 f108 (fun _ hZ => notFace_of_selects (args := #[]) (mvT hZ (hw _ (List.mem_of_getElem? (i := 73) rfl)))) (rm_eqS l Z a0 hw n0 h46 hWd [] X46.old b15 r7 f109 ) (hw _ (List.mem_of_getElem? (i := 70) rfl)) (hw _ (List.mem_of_getElem? (i := 71) rfl)) (hw _ (List.mem_of_getElem? (i := 73) rfl)) (hw _ (List.mem_of_getElem? (i := 72) rfl)) (hw _ (List.mem_of_getElem? (i := 56) rfl)) (hw _ (List.mem_of_getElem? (i := 74) rfl)) (by decide) (lenOf pd__28Ljava_2flang_2fObject_3b_29Z rfl) rfl rfl rfl (W := 0) rfl (by decide) (by decide) (by decide) (by decide) all0 rfl ?_
                intro T110 h110 v110 X110 K110 hQ110
                obtain rfl := hQ110
                show OGo _ _ _ _ T110 (mkF m 224 #[.val (.int k1), .val (.int u1), .val (.int k2), .val (.int u2), .val (.int pm), .val (.int (0 : Int32)), .val (.int (0 : Int32)), .val (.int ((XT.ushr pm (2 : Int32)) &&& (3 : Int32))), .val (.ref r3), .val (.ref r5), .val (.ref r7), .val (.ref r9), .val (.int (0 : Int32)), .val (.int (0 : Int32)), .val (.ref b15), .val (.ref b32), .val (.ref r7), .val (.int (0 : Int32)), .unset] [(.int (0 : Int32))])
                refine og_istore X110 226 #[.val (.int k1), .val (.int u1), .val (.int k2), .val (.int u2), .val (.int pm), .val (.int (0 : Int32)), .val (.int (0 : Int32)), .val (.int ((XT.ushr pm (2 : Int32)) &&& (3 : Int32))), .val (.ref r3), .val (.ref r5), .val (.ref r7), .val (.ref r9), .val (.int (0 : Int32)), .val (.int (0 : Int32)), .val (.ref b15), .val (.ref b32), .val (.ref r7), .val (.int (0 : Int32)), .val (.int (0 : Int32))] at_224 rfl rfl ?_
                refine og_iload X110 228 at_226 rfl rfl ?_
                refine og_ifY X110 256 at_228 (XT.i0_ne_t hc49) (by decide) (by decide) ?_
                refine og_iload X110 258 at_256 rfl rfl ?_
                refine og_iload X110 260 at_258 rfl rfl ?_
                refine og_icmpN X110 263 at_260 (XT.ii_ne_f (by decide)) rfl ?_
                refine og_iconst X110 264 (1 : Int32) at_263 rfl rfl ?_
                refine og_goto X110 268 at_264 (by decide) (by decide) ?_
                refine own_retZ X110 at_268 hret rfl (by decide) (by decide) ?_
                exact rfl
              · -- not
                refine og_icmpY X46 210 at_197 (XT.ii_ne_t hc105) (by decide) (by decide) ?_
                refine og_aload X46 212 at_210 rfl rfl rfl ?_
                refine og_astore X46 214 #[.val (.int k1), .val (.int u1), .val (.int k2), .val (.int u2), .val (.int pm), .val (.int (0 : Int32)), .val (.int (0 : Int32)), .val (.int ((XT.ushr pm (2 : Int32)) &&& (3 : Int32))), .val (.ref r3), .val (.ref r5), .val (.ref r7), .val (.ref r9), .val (.int (0 : Int32)), .val (.int (0 : Int32)), .val (.ref b15), .val (.ref b32), .val (.ref b15), .unset, .unset] at_212 rfl rfl rfl ?_
                refine og_iconst X46 215 (1 : Int32) at_214 rfl rfl ?_
                refine og_istore X46 217 #[.val (.int k1), .val (.int u1), .val (.int k2), .val (.int u2), .val (.int pm), .val (.int (0 : Int32)), .val (.int (0 : Int32)), .val (.int ((XT.ushr pm (2 : Int32)) &&& (3 : Int32))), .val (.ref r3), .val (.ref r5), .val (.ref r7), .val (.ref r9), .val (.int (0 : Int32)), .val (.int (0 : Int32)), .val (.ref b15), .val (.ref b32), .val (.ref b15), .val (.int (1 : Int32)), .unset] at_215 rfl rfl ?_
                refine og_aload X46 219 at_217 rfl rfl rfl ?_
                refine og_aload X46 221 at_219 rfl rfl rfl ?_
                have f111 := E15.keep K29
                have f112 := f111.keep K32
                have f113 := f112.keep K46
                have f114 := f30.keep K32 nin0
                have f115 := f114.keep K46 (ninS (Nat.ne_of_lt (Nat.lt_of_lt_of_le (Nat.lt_of_lt_of_le U15 K29.1) G32)) nin0)
                have f116 := f31.keep K32 nin0
                have f117 := f116.keep K46 (ninS (Nat.ne_of_lt (Nat.lt_of_lt_of_le (Nat.lt_of_lt_of_le U15 K29.1) G32)) nin0)
                have f118 := f4.keep K5 all0
                have f119 := f118.keep K7 all0
                have f120 := f119.keep K9 all0
                have f121 := f120.keep K11 all0
                have f122 := f121.keep K13 all0
                have f123 := f122.keep K15 all0
                have f124 := f123.keep K29 (allS (Or.inl (Nat.le_trans (Nat.le_trans (Nat.le_trans (Nat.le_trans (Nat.le_trans K5.1 K7.1) K9.1) K11.1) K13.1) G15)) all0)
                have f125 := f124.keep K32 all0
                have f126 := f125.keep K46 (allS (Or.inl (Nat.le_trans (Nat.le_trans (Nat.le_trans (Nat.le_trans (Nat.le_trans (Nat.le_trans (Nat.le_trans K5.1 K7.1) K9.1) K11.1) K13.1) K15.1) K29.1) G32)) all0)
                have f127 := f6.keep K7 all0
                have f128 := f127.keep K9 all0
                have f129 := f128.keep K11 all0
                have f130 := f129.keep K13 all0
                have f131 := f130.keep K15 all0
                have f132 := f131.keep K29 (allS (Or.inl (Nat.le_trans (Nat.le_trans (Nat.le_trans (Nat.le_trans K7.1 K9.1) K11.1) K13.1) G15)) all0)
                have f133 := f132.keep K32 all0
                have f134 := f133.keep K46 (allS (Or.inl (Nat.le_trans (Nat.le_trans (Nat.le_trans (Nat.le_trans (Nat.le_trans (Nat.le_trans K7.1 K9.1) K11.1) K13.1) K15.1) K29.1) G32)) all0)
                refine own_virt X46 224 (a := b15) (argsL := [(.ref b15)]) (rest := []) at_221 f113 (fun _ hZ => notFace_of_selects (args := #[]) (mvT hZ (hw _ (List.mem_of_getElem? (i := 73) rfl)))) (rm_eqK l Z a0 hw n0 h46 hWd [] X46.old b15 b15 r3 r5 r3 r5 (own_mk k1) (own_mk u1) (own_mk k1) (own_mk u1) f113 f115 f117 f115 f117 f126.top f134.top f126.top f134.top ) (hw _ (List.mem_of_getElem? (i := 70) rfl)) (hw _ (List.mem_of_getElem? (i := 71) rfl)) (hw _ (List.mem_of_getElem? (i := 73) rfl)) (hw _ (List.mem_of_getElem? (i := 72) rfl)) (hw _ (List.mem_of_getElem? (i := 56) rfl)) (hw _ (List.mem_of_getElem? (i := 74) rfl)) (by decide) (lenOf pd__28Ljava_2flang_2fObject_3b_29Z rfl) rfl rfl rfl (W := 0) rfl (by decide) (by decide) (by decide) (by decide) all0 rfl ?_
                intro T135 h135 v135 X135 K135 hQ135
                obtain rfl := hQ135
                show OGo _ _ _ _ T135 (mkF m 224 #[.val (.int k1), .val (.int u1), .val (.int k2), .val (.int u2), .val (.int pm), .val (.int (0 : Int32)), .val (.int (0 : Int32)), .val (.int ((XT.ushr pm (2 : Int32)) &&& (3 : Int32))), .val (.ref r3), .val (.ref r5), .val (.ref r7), .val (.ref r9), .val (.int (0 : Int32)), .val (.int (0 : Int32)), .val (.ref b15), .val (.ref b32), .val (.ref b15), .val (.int (1 : Int32)), .unset] [(.int (own_eq2 (own_mk k1) (own_mk u1) (own_mk k1) (own_mk u1)))])
                refine og_istore X135 226 #[.val (.int k1), .val (.int u1), .val (.int k2), .val (.int u2), .val (.int pm), .val (.int (0 : Int32)), .val (.int (0 : Int32)), .val (.int ((XT.ushr pm (2 : Int32)) &&& (3 : Int32))), .val (.ref r3), .val (.ref r5), .val (.ref r7), .val (.ref r9), .val (.int (0 : Int32)), .val (.int (0 : Int32)), .val (.ref b15), .val (.ref b32), .val (.ref b15), .val (.int (1 : Int32)), .val (.int (own_eq2 (own_mk k1) (own_mk u1) (own_mk k1) (own_mk u1)))] at_224 rfl rfl ?_
                refine og_iload X135 228 at_226 rfl rfl ?_
                refine og_ifY X135 256 at_228 (XT.i0_ne_t hc49) (by decide) (by decide) ?_
                refine og_iload X135 258 at_256 rfl rfl ?_
                refine og_iload X135 260 at_258 rfl rfl ?_
                refine og_icmpN X135 263 at_260 (XT.ii_ne_f (own_eq2_1 rfl rfl)) rfl ?_
                refine og_iconst X135 264 (1 : Int32) at_263 rfl rfl ?_
                refine og_goto X135 268 at_264 (by decide) (by decide) ?_
                refine own_retZ X135 at_268 hret rfl (by decide) (by decide) ?_
                exact rfl
        · -- not
          refine og_ifN X13 117 at_114 (XT.i0_eq_f hc14) rfl ?_
          refine og_iconst X13 118 (1 : Int32) at_117 rfl rfl ?_
          refine og_goto X13 122 at_118 (by decide) (by decide) ?_
          refine og_istore X13 124 #[.val (.int k1), .val (.int u1), .val (.int k2), .val (.int u2), .val (.int pm), .val (.int (0 : Int32)), .val (.int (0 : Int32)), .val (.int ((XT.ushr pm (2 : Int32)) &&& (3 : Int32))), .val (.ref r3), .val (.ref r5), .val (.ref r7), .val (.ref r9), .val (.int (0 : Int32)), .val (.int (1 : Int32)), .unset, .unset, .unset, .unset, .unset] at_122 rfl rfl ?_
          refine own_new X13 127 at_124 (hw _ (List.mem_of_getElem? (i := 54) rfl)) (hw _ (List.mem_of_getElem? (i := 55) rfl)) (hw _ (List.mem_of_getElem? (i := 56) rfl)) (by decide) (by decide) rfl ?_
          intro T136 h136 b136 X136 K136 G136 U136 E136 D136
          have f137 : Fld Z h136 b136 "com/example/chitragupta/chitragupta/model/HelpdeskSite" "kind" "Ljava/lang/String;" .null := D136 (Or.inr (hw _ (List.mem_of_getElem? (i := 67) rfl))) (ty := (.object "java/lang/String")) (by decide)
          have f138 : Fld Z h136 b136 "com/example/chitragupta/chitragupta/model/HelpdeskSite" "url" "Ljava/lang/String;" .null := D136 (Or.inr (hw _ (List.mem_of_getElem? (i := 69) rfl))) (ty := (.object "java/lang/String")) (by decide)
          refine og_dup X136 128 at_127 rfl rfl ?_
          refine og_aload X136 130 at_128 rfl rfl rfl ?_
          refine og_aload X136 132 at_130 rfl rfl rfl ?_
          have f139 := f4.exa.keep K5
          have f140 := f139.keep K7
          have f141 := f140.keep K9
          have f142 := f141.keep K11
          have f143 := f142.keep K13
          have f144 := f143.keep K136
          have f145 := f6.exa.keep K7
          have f146 := f145.keep K9
          have f147 := f146.keep K11
          have f148 := f147.keep K13
          have f149 := f148.keep K136
          refine own_spec X136 135 (a := b136) (argsL := [(.ref r3), (.ref r5)]) (rest := [(.ref b136)]) at_132 rfl (rm13 l Z a0 hw n0 h136 hWd [] X136.old b136 r3 r5 E136 f137 f138 f144 f149 (own_svb X136 (List.mem_of_getElem? (i := 0) rfl))) (hw _ (List.mem_of_getElem? (i := 57) rfl)) (hw _ (List.mem_of_getElem? (i := 58) rfl)) (hw _ (List.mem_of_getElem? (i := 56) rfl)) (hw _ (List.mem_of_getElem? (i := 59) rfl)) (by decide) (lenOf pd__28Ljava_2flang_2fString_3bLjava_2flang_2fString_3b_29V rfl) rfl rfl rfl (W := 1) rfl (by decide) (by decide) (by decide) (by decide) (allS (List.mem_of_getElem? (i := 0) rfl) all0) rfl ?_
          intro T150 h150 v150 X150 K150 hQ150
          obtain ⟨rfl, f151, f152⟩ := hQ150
          show OGo _ _ _ _ T150 (mkF m 135 #[.val (.int k1), .val (.int u1), .val (.int k2), .val (.int u2), .val (.int pm), .val (.int (0 : Int32)), .val (.int (0 : Int32)), .val (.int ((XT.ushr pm (2 : Int32)) &&& (3 : Int32))), .val (.ref r3), .val (.ref r5), .val (.ref r7), .val (.ref r9), .val (.int (0 : Int32)), .val (.int (1 : Int32)), .unset, .unset, .unset, .unset, .unset] [(.ref b136)])
          refine og_astore X150 137 #[.val (.int k1), .val (.int u1), .val (.int k2), .val (.int u2), .val (.int pm), .val (.int (0 : Int32)), .val (.int (0 : Int32)), .val (.int ((XT.ushr pm (2 : Int32)) &&& (3 : Int32))), .val (.ref r3), .val (.ref r5), .val (.ref r7), .val (.ref r9), .val (.int (0 : Int32)), .val (.int (1 : Int32)), .val (.ref b136), .unset, .unset, .unset, .unset] at_135 rfl rfl rfl ?_
          refine own_new X150 140 at_137 (hw _ (List.mem_of_getElem? (i := 54) rfl)) (hw _ (List.mem_of_getElem? (i := 55) rfl)) (hw _ (List.mem_of_getElem? (i := 56) rfl)) (by decide) (by decide) rfl ?_
          intro T153 h153 b153 X153 K153 G153 U153 E153 D153
          have f154 : Fld Z h153 b153 "com/example/chitragupta/chitragupta/model/HelpdeskSite" "kind" "Ljava/lang/String;" .null := D153 (Or.inr (hw _ (List.mem_of_getElem? (i := 67) rfl))) (ty := (.object "java/lang/String")) (by decide)
          have f155 : Fld Z h153 b153 "com/example/chitragupta/chitragupta/model/HelpdeskSite" "url" "Ljava/lang/String;" .null := D153 (Or.inr (hw _ (List.mem_of_getElem? (i := 69) rfl))) (ty := (.object "java/lang/String")) (by decide)
          refine og_dup X153 141 at_140 rfl rfl ?_
          refine og_aload X153 143 at_141 rfl rfl rfl ?_
          refine og_aload X153 145 at_143 rfl rfl rfl ?_
          have f156 := f8.exa.keep K9
          have f157 := f156.keep K11
          have f158 := f157.keep K13
          have f159 := f158.keep K136
          have f160 := f159.keep K150
          have f161 := f160.keep K153
          have f162 := f10.exa.keep K11
          have f163 := f162.keep K13
          have f164 := f163.keep K136
          have f165 := f164.keep K150
          have f166 := f165.keep K153
          refine own_spec X153 148 (a := b153) (argsL := [(.ref r7), (.ref r9)]) (rest := [(.ref b153)]) at_145 rfl (rm13 l Z a0 hw n0 h153 hWd [] X153.old b153 r7 r9 E153 f154 f155 f161 f166 (own_svb X153 (List.mem_of_getElem? (i := 0) rfl))) (hw _ (List.mem_of_getElem? (i := 57) rfl)) (hw _ (List.mem_of_getElem? (i := 58) rfl)) (hw _ (List.mem_of_getElem? (i := 56) rfl)) (hw _ (List.mem_of_getElem? (i := 59) rfl)) (by decide) (lenOf pd__28Ljava_2flang_2fString_3bLjava_2flang_2fString_3b_29V rfl) rfl rfl rfl (W := 1) rfl (by decide) (by decide) (by decide) (by decide) (allS (List.mem_of_getElem? (i := 0) rfl) all0) rfl ?_
          intro T167 h167 v167 X167 K167 hQ167
          obtain ⟨rfl, f168, f169⟩ := hQ167
          show OGo _ _ _ _ T167 (mkF m 148 #[.val (.int k1), .val (.int u1), .val (.int k2), .val (.int u2), .val (.int pm), .val (.int (0 : Int32)), .val (.int (0 : Int32)), .val (.int ((XT.ushr pm (2 : Int32)) &&& (3 : Int32))), .val (.ref r3), .val (.ref r5), .val (.ref r7), .val (.ref r9), .val (.int (0 : Int32)), .val (.int (1 : Int32)), .val (.ref b136), .unset, .unset, .unset, .unset] [(.ref b153)])
          refine og_astore X167 150 #[.val (.int k1), .val (.int u1), .val (.int k2), .val (.int u2), .val (.int pm), .val (.int (0 : Int32)), .val (.int (0 : Int32)), .val (.int ((XT.ushr pm (2 : Int32)) &&& (3 : Int32))), .val (.ref r3), .val (.ref r5), .val (.ref r7), .val (.ref r9), .val (.int (0 : Int32)), .val (.int (1 : Int32)), .val (.ref b136), .val (.ref b153), .unset, .unset, .unset] at_148 rfl rfl rfl ?_
          refine og_iload X167 152 at_150 rfl rfl ?_
          by_cases hc170 : ((XT.ushr pm (2 : Int32)) &&& (3 : Int32)) = 0
          · -- ((XT.ushr pm (2 : Int32)) &&& (3 : Int32)) = 0
            refine og_ifN X167 155 at_152 (XT.i0_ne_f hc170) rfl ?_
            refine og_aload X167 157 at_155 rfl rfl rfl ?_
            refine og_astore X167 159 #[.val (.int k1), .val (.int u1), .val (.int k2), .val (.int u2), .val (.int pm), .val (.int (0 : Int32)), .val (.int (0 : Int32)), .val (.int ((XT.ushr pm (2 : Int32)) &&& (3 : Int32))), .val (.ref r3), .val (.ref r5), .val (.ref r7), .val (.ref r9), .val (.int (0 : Int32)), .val (.int (1 : Int32)), .val (.ref b136), .val (.ref b153), .val (.ref b153), .unset, .unset] at_157 rfl rfl rfl ?_
            refine og_iload X167 161 at_159 rfl rfl ?_
            refine og_ifY X167 173 at_161 (XT.i0_eq_t (by decide)) (by decide) (by decide) ?_
            refine og_iconst X167 174 (0 : Int32) at_173 rfl rfl ?_
            refine og_istore X167 176 #[.val (.int k1), .val (.int u1), .val (.int k2), .val (.int u2), .val (.int pm), .val (.int (0 : Int32)), .val (.int (0 : Int32)), .val (.int ((XT.ushr pm (2 : Int32)) &&& (3 : Int32))), .val (.ref r3), .val (.ref r5), .val (.ref r7), .val (.ref r9), .val (.int (0 : Int32)), .val (.int (1 : Int32)), .val (.ref b136), .val (.ref b153), .val (.ref b153), .val (.int (0 : Int32)), .unset] at_174 rfl rfl ?_
            refine og_goto X167 217 at_176 (by decide) (by decide) ?_
            refine og_aload X167 219 at_217 rfl rfl rfl ?_
            refine og_aload X167 221 at_219 rfl rfl rfl ?_
            have f171 := E136.keep K150
            have f172 := f171.keep K153
            have f173 := f172.keep K167
            have f174 := E153.keep K167
            have f175 := f151.keep K153 nin0
            have f176 := f175.keep K167 (ninS (Nat.ne_of_lt (Nat.lt_of_lt_of_le (Nat.lt_of_lt_of_le U136 K150.1) G153)) nin0)
            have f177 := f152.keep K153 nin0
            have f178 := f177.keep K167 (ninS (Nat.ne_of_lt (Nat.lt_of_lt_of_le (Nat.lt_of_lt_of_le U136 K150.1) G153)) nin0)
            have f179 := f4.keep K5 all0
            have f180 := f179.keep K7 all0
            have f181 := f180.keep K9 all0
            have f182 := f181.keep K11 all0
            have f183 := f182.keep K13 all0
            have f184 := f183.keep K136 all0
            have f185 := f184.keep K150 (allS (Or.inl (Nat.le_trans (Nat.le_trans (Nat.le_trans (Nat.le_trans (Nat.le_trans K5.1 K7.1) K9.1) K11.1) K13.1) G136)) all0)
            have f186 := f185.keep K153 all0
            have f187 := f186.keep K167 (allS (Or.inl (Nat.le_trans (Nat.le_trans (Nat.le_trans (Nat.le_trans (Nat.le_trans (Nat.le_trans (Nat.le_trans K5.1 K7.1) K9.1) K11.1) K13.1) K136.1) K150.1) G153)) all0)
            have f188 := f6.keep K7 all0
            have f189 := f188.keep K9 all0
            have f190 := f189.keep K11 all0
            have f191 := f190.keep K13 all0
            have f192 := f191.keep K136 all0
            have f193 := f192.keep K150 (allS (Or.inl (Nat.le_trans (Nat.le_trans (Nat.le_trans (Nat.le_trans K7.1 K9.1) K11.1) K13.1) G136)) all0)
            have f194 := f193.keep K153 all0
            have f195 := f194.keep K167 (allS (Or.inl (Nat.le_trans (Nat.le_trans (Nat.le_trans (Nat.le_trans (Nat.le_trans (Nat.le_trans K7.1 K9.1) K11.1) K13.1) K136.1) K150.1) G153)) all0)
            have f196 := f8.keep K9 all0
            have f197 := f196.keep K11 all0
            have f198 := f197.keep K13 all0
            have f199 := f198.keep K136 all0
            have f200 := f199.keep K150 (allS (Or.inl (Nat.le_trans (Nat.le_trans (Nat.le_trans K9.1 K11.1) K13.1) G136)) all0)
            have f201 := f200.keep K153 all0
            have f202 := f201.keep K167 (allS (Or.inl (Nat.le_trans (Nat.le_trans (Nat.le_trans (Nat.le_trans (Nat.le_trans K9.1 K11.1) K13.1) K136.1) K150.1) G153)) all0)
            have f203 := f10.keep K11 all0
            have f204 := f203.keep K13 all0
            have f205 := f204.keep K136 all0
            have f206 := f205.keep K150 (allS (Or.inl (Nat.le_trans (Nat.le_trans K11.1 K13.1) G136)) all0)
            have f207 := f206.keep K153 all0
            have f208 := f207.keep K167 (allS (Or.inl (Nat.le_trans (Nat.le_trans (Nat.le_trans (Nat.le_trans K11.1 K13.1) K136.1) K150.1) G153)) all0)
            refine own_virt X167 224 (a := b136) (argsL := [(.ref b153)]) (rest := []) at_221 f173 (fun _ hZ => notFace_of_selects (args := #[]) (mvT hZ (hw _ (List.mem_of_getElem? (i := 73) rfl)))) (rm_eqK l Z a0 hw n0 h167 hWd [] X167.old b136 b153 r3 r5 r7 r9 (own_mk k1) (own_mk u1) (own_mk k2) (own_mk u2) f174 f176 f178 f168 f169 f187.top f195.top f202.top f208.top ) (hw _ (List.mem_of_getElem? (i := 70) rfl)) (hw _ (List.mem_of_getElem? (i := 71) rfl)) (hw _ (List.mem_of_getElem? (i := 73) rfl)) (hw _ (List.mem_of_getElem? (i := 72) rfl)) (hw _ (List.mem_of_getElem? (i := 56) rfl)) (hw _ (List.mem_of_getElem? (i := 74) rfl)) (by decide) (lenOf pd__28Ljava_2flang_2fObject_3b_29Z rfl) rfl rfl rfl (W := 0) rfl (by decide) (by decide) (by decide) (by decide) all0 rfl ?_
            intro T209 h209 v209 X209 K209 hQ209
            obtain rfl := hQ209
            show OGo _ _ _ _ T209 (mkF m 224 #[.val (.int k1), .val (.int u1), .val (.int k2), .val (.int u2), .val (.int pm), .val (.int (0 : Int32)), .val (.int (0 : Int32)), .val (.int ((XT.ushr pm (2 : Int32)) &&& (3 : Int32))), .val (.ref r3), .val (.ref r5), .val (.ref r7), .val (.ref r9), .val (.int (0 : Int32)), .val (.int (1 : Int32)), .val (.ref b136), .val (.ref b153), .val (.ref b153), .val (.int (0 : Int32)), .unset] [(.int (own_eq2 (own_mk k1) (own_mk u1) (own_mk k2) (own_mk u2)))])
            refine og_istore X209 226 #[.val (.int k1), .val (.int u1), .val (.int k2), .val (.int u2), .val (.int pm), .val (.int (0 : Int32)), .val (.int (0 : Int32)), .val (.int ((XT.ushr pm (2 : Int32)) &&& (3 : Int32))), .val (.ref r3), .val (.ref r5), .val (.ref r7), .val (.ref r9), .val (.int (0 : Int32)), .val (.int (1 : Int32)), .val (.ref b136), .val (.ref b153), .val (.ref b153), .val (.int (0 : Int32)), .val (.int (own_eq2 (own_mk k1) (own_mk u1) (own_mk k2) (own_mk u2)))] at_224 rfl rfl ?_
            refine og_iload X209 228 at_226 rfl rfl ?_
            refine og_ifN X209 231 at_228 (XT.i0_ne_f hc170) rfl ?_
            refine og_iload X209 233 at_231 rfl rfl ?_
            refine og_iload X209 235 at_233 rfl rfl ?_
            refine og_icmpN X209 238 at_235 (XT.ii_ne_f (own_eq2_0 fun q => (own_eqb0.mp hc12) q.1)) rfl ?_
            refine og_aload X209 240 at_238 rfl rfl rfl ?_
            refine og_aload X209 242 at_240 rfl rfl rfl ?_
            have f210 := f174.keep K209
            have f211 := f173.keep K209
            have f212 := f168.keep K209 nin0
            have f213 := f169.keep K209 nin0
            have f214 := f176.keep K209 nin0
            have f215 := f178.keep K209 nin0
            have f216 := f202.keep K209 all0
            have f217 := f208.keep K209 all0
            have f218 := f187.keep K209 all0
            have f219 := f195.keep K209 all0
            refine own_virt X209 245 (a := b153) (argsL := [(.ref b136)]) (rest := []) at_242 f210 (fun _ hZ => notFace_of_selects (args := #[]) (mvT hZ (hw _ (List.mem_of_getElem? (i := 73) rfl)))) (rm_eqK l Z a0 hw n0 h209 hWd [] X209.old b153 b136 r7 r9 r3 r5 (own_mk k2) (own_mk u2) (own_mk k1) (own_mk u1) f211 f212 f213 f214 f215 f216.top f217.top f218.top f219.top ) (hw _ (List.mem_of_getElem? (i := 70) rfl)) (hw _ (List.mem_of_getElem? (i := 71) rfl)) (hw _ (List.mem_of_getElem? (i := 73) rfl)) (hw _ (List.mem_of_getElem? (i := 72) rfl)) (hw _ (List.mem_of_getElem? (i := 56) rfl)) (hw _ (List.mem_of_getElem? (i := 74) rfl)) (by decide) (lenOf pd__28Ljava_2flang_2fObject_3b_29Z rfl) rfl rfl rfl (W := 0) rfl (by decide) (by decide) (by decide) (by decide) all0 rfl ?_
            intro T220 h220 v220 X220 K220 hQ220
            obtain rfl := hQ220
            show OGo _ _ _ _ T220 (mkF m 245 #[.val (.int k1), .val (.int u1), .val (.int k2), .val (.int u2), .val (.int pm), .val (.int (0 : Int32)), .val (.int (0 : Int32)), .val (.int ((XT.ushr pm (2 : Int32)) &&& (3 : Int32))), .val (.ref r3), .val (.ref r5), .val (.ref r7), .val (.ref r9), .val (.int (0 : Int32)), .val (.int (1 : Int32)), .val (.ref b136), .val (.ref b153), .val (.ref b153), .val (.int (0 : Int32)), .val (.int (own_eq2 (own_mk k1) (own_mk u1) (own_mk k2) (own_mk u2)))] [(.int (own_eq2 (own_mk k2) (own_mk u2) (own_mk k1) (own_mk u1)))])
            refine og_iload X220 247 at_245 rfl rfl ?_
            refine og_icmpN X220 250 at_247 (XT.ii_ne_f (own_eq2_0 fun q => (fun z => own_eqb0.mp hc12 z.symm) q.1)) rfl ?_
            refine og_iconst X220 251 (1 : Int32) at_250 rfl rfl ?_
            refine og_goto X220 255 at_251 (by decide) (by decide) ?_
            refine own_retZ X220 at_255 hret rfl (by decide) (by decide) ?_
            exact rfl
          · -- not
            refine og_ifY X167 179 at_152 (XT.i0_ne_t hc170) (by decide) (by decide) ?_
            refine og_iload X167 181 at_179 rfl rfl ?_
            refine og_iconst X167 182 (1 : Int32) at_181 rfl rfl ?_
            by_cases hc221 : ((XT.ushr pm (2 : Int32)) &&& (3 : Int32)) = (1 : Int32)
            · -- ((XT.ushr pm (2 : Int32)) &&& (3 : Int32)) = (1 : Int32)
              refine og_icmpN X167 185 at_182 (XT.ii_ne_f hc221) rfl ?_
              refine og_aconstNull X167 186 at_185 rfl ?_
              refine og_astore X167 188 #[.val (.int k1), .val (.int u1), .val (.int k2), .val (.int u2), .val (.int pm), .val (.int (0 : Int32)), .val (.int (0 : Int32)), .val (.int ((XT.ushr pm (2 : Int32)) &&& (3 : Int32))), .val (.ref r3), .val (.ref r5), .val (.ref r7), .val (.ref r9), .val (.int (0 : Int32)), .val (.int (1 : Int32)), .val (.ref b136), .val (.ref b153), .val .null, .unset, .unset] at_186 rfl rfl rfl ?_
              refine og_iconst X167 189 (0 : Int32) at_188 rfl rfl ?_
              refine og_istore X167 191 #[.val (.int k1), .val (.int u1), .val (.int k2), .val (.int u2), .val (.int pm), .val (.int (0 : Int32)), .val (.int (0 : Int32)), .val (.int ((XT.ushr pm (2 : Int32)) &&& (3 : Int32))), .val (.ref r3), .val (.ref r5), .val (.ref r7), .val (.ref r9), .val (.int (0 : Int32)), .val (.int (1 : Int32)), .val (.ref b136), .val (.ref b153), .val .null, .val (.int (0 : Int32)), .unset] at_189 rfl rfl ?_
              refine og_goto X167 217 at_191 (by decide) (by decide) ?_
              refine og_aload X167 219 at_217 rfl rfl rfl ?_
              refine og_aload X167 221 at_219 rfl rfl rfl ?_
              have f222 := E136.keep K150
              have f223 := f222.keep K153
              have f224 := f223.keep K167
              refine own_virt X167 224 (a := b136) (argsL := [.null]) (rest := []) at_221 f224 (fun _ hZ => notFace_of_selects (args := #[]) (mvT hZ (hw _ (List.mem_of_getElem? (i := 73) rfl)))) (rm_eqN l Z a0 hw n0 h167 hWd [] X167.old b136  ) (hw _ (List.mem_of_getElem? (i := 70) rfl)) (hw _ (List.mem_of_getElem? (i := 71) rfl)) (hw _ (List.mem_of_getElem? (i := 73) rfl)) (hw _ (List.mem_of_getElem? (i := 72) rfl)) (hw _ (List.mem_of_getElem? (i := 56) rfl)) (hw _ (List.mem_of_getElem? (i := 74) rfl)) (by decide) (lenOf pd__28Ljava_2flang_2fObject_3b_29Z rfl) rfl rfl rfl (W := 0) rfl (by decide) (by decide) (by decide) (by decide) all0 rfl ?_
              intro T225 h225 v225 X225 K225 hQ225
              obtain rfl := hQ225
              show OGo _ _ _ _ T225 (mkF m 224 #[.val (.int k1), .val (.int u1), .val (.int k2), .val (.int u2), .val (.int pm), .val (.int (0 : Int32)), .val (.int (0 : Int32)), .val (.int ((XT.ushr pm (2 : Int32)) &&& (3 : Int32))), .val (.ref r3), .val (.ref r5), .val (.ref r7), .val (.ref r9), .val (.int (0 : Int32)), .val (.int (1 : Int32)), .val (.ref b136), .val (.ref b153), .val .null, .val (.int (0 : Int32)), .unset] [(.int (0 : Int32))])
              refine og_istore X225 226 #[.val (.int k1), .val (.int u1), .val (.int k2), .val (.int u2), .val (.int pm), .val (.int (0 : Int32)), .val (.int (0 : Int32)), .val (.int ((XT.ushr pm (2 : Int32)) &&& (3 : Int32))), .val (.ref r3), .val (.ref r5), .val (.ref r7), .val (.ref r9), .val (.int (0 : Int32)), .val (.int (1 : Int32)), .val (.ref b136), .val (.ref b153), .val .null, .val (.int (0 : Int32)), .val (.int (0 : Int32))] at_224 rfl rfl ?_
              refine og_iload X225 228 at_226 rfl rfl ?_
              refine og_ifY X225 256 at_228 (XT.i0_ne_t hc170) (by decide) (by decide) ?_
              refine og_iload X225 258 at_256 rfl rfl ?_
              refine og_iload X225 260 at_258 rfl rfl ?_
              refine og_icmpN X225 263 at_260 (XT.ii_ne_f (by decide)) rfl ?_
              refine og_iconst X225 264 (1 : Int32) at_263 rfl rfl ?_
              refine og_goto X225 268 at_264 (by decide) (by decide) ?_
              refine own_retZ X225 at_268 hret rfl (by decide) (by decide) ?_
              exact rfl
            · -- not
              refine og_icmpY X167 194 at_182 (XT.ii_ne_t hc221) (by decide) (by decide) ?_
              refine og_iload X167 196 at_194 rfl rfl ?_
              refine og_iconst X167 197 (2 : Int32) at_196 rfl rfl ?_
              by_cases hc226 : ((XT.ushr pm (2 : Int32)) &&& (3 : Int32)) = (2 : Int32)
              · -- ((XT.ushr pm (2 : Int32)) &&& (3 : Int32)) = (2 : Int32)
                refine og_icmpN X167 200 at_197 (XT.ii_ne_f hc226) rfl ?_
                refine og_aload X167 202 at_200 rfl rfl rfl ?_
                refine og_astore X167 204 #[.val (.int k1), .val (.int u1), .val (.int k2), .val (.int u2), .val (.int pm), .val (.int (0 : Int32)), .val (.int (0 : Int32)), .val (.int ((XT.ushr pm (2 : Int32)) &&& (3 : Int32))), .val (.ref r3), .val (.ref r5), .val (.ref r7), .val (.ref r9), .val (.int (0 : Int32)), .val (.int (1 : Int32)), .val (.ref b136), .val (.ref b153), .val (.ref r7), .unset, .unset] at_202 rfl rfl rfl ?_
                refine og_iconst X167 205 (0 : Int32) at_204 rfl rfl ?_
                refine og_istore X167 207 #[.val (.int k1), .val (.int u1), .val (.int k2), .val (.int u2), .val (.int pm), .val (.int (0 : Int32)), .val (.int (0 : Int32)), .val (.int ((XT.ushr pm (2 : Int32)) &&& (3 : Int32))), .val (.ref r3), .val (.ref r5), .val (.ref r7), .val (.ref r9), .val (.int (0 : Int32)), .val (.int (1 : Int32)), .val (.ref b136), .val (.ref b153), .val (.ref r7), .val (.int (0 : Int32)), .unset] at_205 rfl rfl ?_
                refine og_goto X167 217 at_207 (by decide) (by decide) ?_
                refine og_aload X167 219 at_217 rfl rfl rfl ?_
                refine og_aload X167 221 at_219 rfl rfl rfl ?_
                have f227 := E136.keep K150
                have f228 := f227.keep K153
                have f229 := f228.keep K167
                have f230 := f161.keep K167
                refine own_virt X167 224 (a := b136) (argsL := [(.ref r7)]) (rest := []) at_221 f229 (fun _ hZ => notFace_of_selects (args := #[]) (mvT hZ (hw _ (List.mem_of_getElem? (i := 73) rfl)))) (rm_eqS l Z a0 hw n0 h167 hWd [] X167.old b136 r7 f230 ) (hw _ (List.mem_of_getElem? (i := 70) rfl)) (hw _ (List.mem_of_getElem? (i := 71) rfl)) (hw _ (List.mem_of_getElem? (i := 73) rfl)) (hw _ (List.mem_of_getElem? (i := 72) rfl)) (hw _ (List.mem_of_getElem? (i := 56) rfl)) (hw _ (List.mem_of_getElem? (i := 74) rfl)) (by decide) (lenOf pd__28Ljava_2flang_2fObject_3b_29Z rfl) rfl rfl rfl (W := 0) rfl (by decide) (by decide) (by decide) (by decide) all0 rfl ?_
                intro T231 h231 v231 X231 K231 hQ231
                obtain rfl := hQ231
                show OGo _ _ _ _ T231 (mkF m 224 #[.val (.int k1), .val (.int u1), .val (.int k2), .val (.int u2), .val (.int pm), .val (.int (0 : Int32)), .val (.int (0 : Int32)), .val (.int ((XT.ushr pm (2 : Int32)) &&& (3 : Int32))), .val (.ref r3), .val (.ref r5), .val (.ref r7), .val (.ref r9), .val (.int (0 : Int32)), .val (.int (1 : Int32)), .val (.ref b136), .val (.ref b153), .val (.ref r7), .val (.int (0 : Int32)), .unset] [(.int (0 : Int32))])
                refine og_istore X231 226 #[.val (.int k1), .val (.int u1), .val (.int k2), .val (.int u2), .val (.int pm), .val (.int (0 : Int32)), .val (.int (0 : Int32)), .val (.int ((XT.ushr pm (2 : Int32)) &&& (3 : Int32))), .val (.ref r3), .val (.ref r5), .val (.ref r7), .val (.ref r9), .val (.int (0 : Int32)), .val (.int (1 : Int32)), .val (.ref b136), .val (.ref b153), .val (.ref r7), .val (.int (0 : Int32)), .val (.int (0 : Int32))] at_224 rfl rfl ?_
                refine og_iload X231 228 at_226 rfl rfl ?_
                refine og_ifY X231 256 at_228 (XT.i0_ne_t hc170) (by decide) (by decide) ?_
                refine og_iload X231 258 at_256 rfl rfl ?_
                refine og_iload X231 260 at_258 rfl rfl ?_
                refine og_icmpN X231 263 at_260 (XT.ii_ne_f (by decide)) rfl ?_
                refine og_iconst X231 264 (1 : Int32) at_263 rfl rfl ?_
                refine og_goto X231 268 at_264 (by decide) (by decide) ?_
                refine own_retZ X231 at_268 hret rfl (by decide) (by decide) ?_
                exact rfl
              · -- not
                refine og_icmpY X167 210 at_197 (XT.ii_ne_t hc226) (by decide) (by decide) ?_
                refine og_aload X167 212 at_210 rfl rfl rfl ?_
                refine og_astore X167 214 #[.val (.int k1), .val (.int u1), .val (.int k2), .val (.int u2), .val (.int pm), .val (.int (0 : Int32)), .val (.int (0 : Int32)), .val (.int ((XT.ushr pm (2 : Int32)) &&& (3 : Int32))), .val (.ref r3), .val (.ref r5), .val (.ref r7), .val (.ref r9), .val (.int (0 : Int32)), .val (.int (1 : Int32)), .val (.ref b136), .val (.ref b153), .val (.ref b136), .unset, .unset] at_212 rfl rfl rfl ?_
                refine og_iconst X167 215 (1 : Int32) at_214 rfl rfl ?_
                refine og_istore X167 217 #[.val (.int k1), .val (.int u1), .val (.int k2), .val (.int u2), .val (.int pm), .val (.int (0 : Int32)), .val (.int (0 : Int32)), .val (.int ((XT.ushr pm (2 : Int32)) &&& (3 : Int32))), .val (.ref r3), .val (.ref r5), .val (.ref r7), .val (.ref r9), .val (.int (0 : Int32)), .val (.int (1 : Int32)), .val (.ref b136), .val (.ref b153), .val (.ref b136), .val (.int (1 : Int32)), .unset] at_215 rfl rfl ?_
                refine og_aload X167 219 at_217 rfl rfl rfl ?_
                refine og_aload X167 221 at_219 rfl rfl rfl ?_
                have f232 := E136.keep K150
                have f233 := f232.keep K153
                have f234 := f233.keep K167
                have f235 := f151.keep K153 nin0
                have f236 := f235.keep K167 (ninS (Nat.ne_of_lt (Nat.lt_of_lt_of_le (Nat.lt_of_lt_of_le U136 K150.1) G153)) nin0)
                have f237 := f152.keep K153 nin0
                have f238 := f237.keep K167 (ninS (Nat.ne_of_lt (Nat.lt_of_lt_of_le (Nat.lt_of_lt_of_le U136 K150.1) G153)) nin0)
                have f239 := f4.keep K5 all0
                have f240 := f239.keep K7 all0
                have f241 := f240.keep K9 all0
                have f242 := f241.keep K11 all0
                have f243 := f242.keep K13 all0
                have f244 := f243.keep K136 all0
                have f245 := f244.keep K150 (allS (Or.inl (Nat.le_trans (Nat.le_trans (Nat.le_trans (Nat.le_trans (Nat.le_trans K5.1 K7.1) K9.1) K11.1) K13.1) G136)) all0)
                have f246 := f245.keep K153 all0
                have f247 := f246.keep K167 (allS (Or.inl (Nat.le_trans (Nat.le_trans (Nat.le_trans (Nat.le_trans (Nat.le_trans (Nat.le_trans (Nat.le_trans K5.1 K7.1) K9.1) K11.1) K13.1) K136.1) K150.1) G153)) all0)
                have f248 := f6.keep K7 all0
                have f249 := f248.keep K9 all0
                have f250 := f249.keep K11 all0
                have f251 := f250.keep K13 all0
                have f252 := f251.keep K136 all0
                have f253 := f252.keep K150 (allS (Or.inl (Nat.le_trans (Nat.le_trans (Nat.le_trans (Nat.le_trans K7.1 K9.1) K11.1) K13.1) G136)) all0)
                have f254 := f253.keep K153 all0
                have f255 := f254.keep K167 (allS (Or.inl (Nat.le_trans (Nat.le_trans (Nat.le_trans (Nat.le_trans (Nat.le_trans (Nat.le_trans K7.1 K9.1) K11.1) K13.1) K136.1) K150.1) G153)) all0)
                refine own_virt X167 224 (a := b136) (argsL := [(.ref b136)]) (rest := []) at_221 f234 (fun _ hZ => notFace_of_selects (args := #[]) (mvT hZ (hw _ (List.mem_of_getElem? (i := 73) rfl)))) (rm_eqK l Z a0 hw n0 h167 hWd [] X167.old b136 b136 r3 r5 r3 r5 (own_mk k1) (own_mk u1) (own_mk k1) (own_mk u1) f234 f236 f238 f236 f238 f247.top f255.top f247.top f255.top ) (hw _ (List.mem_of_getElem? (i := 70) rfl)) (hw _ (List.mem_of_getElem? (i := 71) rfl)) (hw _ (List.mem_of_getElem? (i := 73) rfl)) (hw _ (List.mem_of_getElem? (i := 72) rfl)) (hw _ (List.mem_of_getElem? (i := 56) rfl)) (hw _ (List.mem_of_getElem? (i := 74) rfl)) (by decide) (lenOf pd__28Ljava_2flang_2fObject_3b_29Z rfl) rfl rfl rfl (W := 0) rfl (by decide) (by decide) (by decide) (by decide) all0 rfl ?_
                intro T256 h256 v256 X256 K256 hQ256
                obtain rfl := hQ256
                show OGo _ _ _ _ T256 (mkF m 224 #[.val (.int k1), .val (.int u1), .val (.int k2), .val (.int u2), .val (.int pm), .val (.int (0 : Int32)), .val (.int (0 : Int32)), .val (.int ((XT.ushr pm (2 : Int32)) &&& (3 : Int32))), .val (.ref r3), .val (.ref r5), .val (.ref r7), .val (.ref r9), .val (.int (0 : Int32)), .val (.int (1 : Int32)), .val (.ref b136), .val (.ref b153), .val (.ref b136), .val (.int (1 : Int32)), .unset] [(.int (own_eq2 (own_mk k1) (own_mk u1) (own_mk k1) (own_mk u1)))])
                refine og_istore X256 226 #[.val (.int k1), .val (.int u1), .val (.int k2), .val (.int u2), .val (.int pm), .val (.int (0 : Int32)), .val (.int (0 : Int32)), .val (.int ((XT.ushr pm (2 : Int32)) &&& (3 : Int32))), .val (.ref r3), .val (.ref r5), .val (.ref r7), .val (.ref r9), .val (.int (0 : Int32)), .val (.int (1 : Int32)), .val (.ref b136), .val (.ref b153), .val (.ref b136), .val (.int (1 : Int32)), .val (.int (own_eq2 (own_mk k1) (own_mk u1) (own_mk k1) (own_mk u1)))] at_224 rfl rfl ?_
                refine og_iload X256 228 at_226 rfl rfl ?_
                refine og_ifY X256 256 at_228 (XT.i0_ne_t hc170) (by decide) (by decide) ?_
                refine og_iload X256 258 at_256 rfl rfl ?_
                refine og_iload X256 260 at_258 rfl rfl ?_
                refine og_icmpN X256 263 at_260 (XT.ii_ne_f (own_eq2_1 rfl rfl)) rfl ?_
                refine og_iconst X256 264 (1 : Int32) at_263 rfl rfl ?_
                refine og_goto X256 268 at_264 (by decide) (by decide) ?_
                refine own_retZ X256 at_268 hret rfl (by decide) (by decide) ?_
                exact rfl
      · -- not
        refine og_ifN X11 97 at_94 (XT.i0_eq_f hc12) rfl ?_
        refine og_iconst X11 98 (1 : Int32) at_97 rfl rfl ?_
        refine og_goto X11 102 at_98 (by decide) (by decide) ?_
        refine og_istore X11 104 #[.val (.int k1), .val (.int u1), .val (.int k2), .val (.int u2), .val (.int pm), .val (.int (0 : Int32)), .val (.int (0 : Int32)), .val (.int ((XT.ushr pm (2 : Int32)) &&& (3 : Int32))), .val (.ref r3), .val (.ref r5), .val (.ref r7), .val (.ref r9), .val (.int (1 : Int32)), .unset, .unset, .unset, .unset, .unset, .unset] at_102 rfl rfl ?_
        refine og_iload X11 106 at_104 rfl rfl ?_
        refine og_ifN X11 109 at_106 (XT.i0_ne_f (by decide)) rfl ?_
        refine og_iloadN X11 110 at_109 rfl rfl ?_
        refine og_iloadN X11 111 at_110 rfl rfl ?_
        refine own_stat X11 114 (argsL := [(.int u1), (.int u2)]) (rest := []) at_111 (rm12 l Z a0 hw n0 h11 hWd [] X11.old u1 u2  ) (hw _ (List.mem_of_getElem? (i := 51) rfl)) (hw _ (List.mem_of_getElem? (i := 52) rfl)) (hw _ (List.mem_of_getElem? (i := 2) rfl)) (hw _ (List.mem_of_getElem? (i := 53) rfl)) (by decide) (lenOf pd__28II_29Z rfl) rfl rfl rfl (W := 0) rfl (by decide) (by decide) (by decide) (by decide) all0 rfl ?_
        intro T257 h257 v257 X257 K257 hQ257
        obtain rfl := hQ257
        show OGo _ _ _ _ T257 (mkF m 114 #[.val (.int k1), .val (.int u1), .val (.int k2), .val (.int u2), .val (.int pm), .val (.int (0 : Int32)), .val (.int (0 : Int32)), .val (.int ((XT.ushr pm (2 : Int32)) &&& (3 : Int32))), .val (.ref r3), .val (.ref r5), .val (.ref r7), .val (.ref r9), .val (.int (1 : Int32)), .unset, .unset, .unset, .unset, .unset, .unset] [(.int (own_eqb (own_mk u1) (own_mk u2)))])
        by_cases hc258 : (own_eqb (own_mk u1) (own_mk u2)) = 0
        · -- (own_eqb (own_mk u1) (own_mk u2)) = 0
          refine og_ifY X257 121 at_114 (XT.i0_eq_t hc258) (by decide) (by decide) ?_
          refine og_iconst X257 122 (0 : Int32) at_121 rfl rfl ?_
          refine og_istore X257 124 #[.val (.int k1), .val (.int u1), .val (.int k2), .val (.int u2), .val (.int pm), .val (.int (0 : Int32)), .val (.int (0 : Int32)), .val (.int ((XT.ushr pm (2 : Int32)) &&& (3 : Int32))), .val (.ref r3), .val (.ref r5), .val (.ref r7), .val (.ref r9), .val (.int (1 : Int32)), .val (.int (0 : Int32)), .unset, .unset, .unset, .unset, .unset] at_122 rfl rfl ?_
          refine own_new X257 127 at_124 (hw _ (List.mem_of_getElem? (i := 54) rfl)) (hw _ (List.mem_of_getElem? (i := 55) rfl)) (hw _ (List.mem_of_getElem? (i := 56) rfl)) (by decide) (by decide) rfl ?_
          intro T259 h259 b259 X259 K259 G259 U259 E259 D259
          have f260 : Fld Z h259 b259 "com/example/chitragupta/chitragupta/model/HelpdeskSite" "kind" "Ljava/lang/String;" .null := D259 (Or.inr (hw _ (List.mem_of_getElem? (i := 67) rfl))) (ty := (.object "java/lang/String")) (by decide)
          have f261 : Fld Z h259 b259 "com/example/chitragupta/chitragupta/model/HelpdeskSite" "url" "Ljava/lang/String;" .null := D259 (Or.inr (hw _ (List.mem_of_getElem? (i := 69) rfl))) (ty := (.object "java/lang/String")) (by decide)
          refine og_dup X259 128 at_127 rfl rfl ?_
          refine og_aload X259 130 at_128 rfl rfl rfl ?_
          refine og_aload X259 132 at_130 rfl rfl rfl ?_
          have f262 := f4.exa.keep K5
          have f263 := f262.keep K7
          have f264 := f263.keep K9
          have f265 := f264.keep K11
          have f266 := f265.keep K257
          have f267 := f266.keep K259
          have f268 := f6.exa.keep K7
          have f269 := f268.keep K9
          have f270 := f269.keep K11
          have f271 := f270.keep K257
          have f272 := f271.keep K259
          refine own_spec X259 135 (a := b259) (argsL := [(.ref r3), (.ref r5)]) (rest := [(.ref b259)]) at_132 rfl (rm13 l Z a0 hw n0 h259 hWd [] X259.old b259 r3 r5 E259 f260 f261 f267 f272 (own_svb X259 (List.mem_of_getElem? (i := 0) rfl))) (hw _ (List.mem_of_getElem? (i := 57) rfl)) (hw _ (List.mem_of_getElem? (i := 58) rfl)) (hw _ (List.mem_of_getElem? (i := 56) rfl)) (hw _ (List.mem_of_getElem? (i := 59) rfl)) (by decide) (lenOf pd__28Ljava_2flang_2fString_3bLjava_2flang_2fString_3b_29V rfl) rfl rfl rfl (W := 1) rfl (by decide) (by decide) (by decide) (by decide) (allS (List.mem_of_getElem? (i := 0) rfl) all0) rfl ?_
          intro T273 h273 v273 X273 K273 hQ273
          obtain ⟨rfl, f274, f275⟩ := hQ273
          show OGo _ _ _ _ T273 (mkF m 135 #[.val (.int k1), .val (.int u1), .val (.int k2), .val (.int u2), .val (.int pm), .val (.int (0 : Int32)), .val (.int (0 : Int32)), .val (.int ((XT.ushr pm (2 : Int32)) &&& (3 : Int32))), .val (.ref r3), .val (.ref r5), .val (.ref r7), .val (.ref r9), .val (.int (1 : Int32)), .val (.int (0 : Int32)), .unset, .unset, .unset, .unset, .unset] [(.ref b259)])
          refine og_astore X273 137 #[.val (.int k1), .val (.int u1), .val (.int k2), .val (.int u2), .val (.int pm), .val (.int (0 : Int32)), .val (.int (0 : Int32)), .val (.int ((XT.ushr pm (2 : Int32)) &&& (3 : Int32))), .val (.ref r3), .val (.ref r5), .val (.ref r7), .val (.ref r9), .val (.int (1 : Int32)), .val (.int (0 : Int32)), .val (.ref b259), .unset, .unset, .unset, .unset] at_135 rfl rfl rfl ?_
          refine own_new X273 140 at_137 (hw _ (List.mem_of_getElem? (i := 54) rfl)) (hw _ (List.mem_of_getElem? (i := 55) rfl)) (hw _ (List.mem_of_getElem? (i := 56) rfl)) (by decide) (by decide) rfl ?_
          intro T276 h276 b276 X276 K276 G276 U276 E276 D276
          have f277 : Fld Z h276 b276 "com/example/chitragupta/chitragupta/model/HelpdeskSite" "kind" "Ljava/lang/String;" .null := D276 (Or.inr (hw _ (List.mem_of_getElem? (i := 67) rfl))) (ty := (.object "java/lang/String")) (by decide)
          have f278 : Fld Z h276 b276 "com/example/chitragupta/chitragupta/model/HelpdeskSite" "url" "Ljava/lang/String;" .null := D276 (Or.inr (hw _ (List.mem_of_getElem? (i := 69) rfl))) (ty := (.object "java/lang/String")) (by decide)
          refine og_dup X276 141 at_140 rfl rfl ?_
          refine og_aload X276 143 at_141 rfl rfl rfl ?_
          refine og_aload X276 145 at_143 rfl rfl rfl ?_
          have f279 := f8.exa.keep K9
          have f280 := f279.keep K11
          have f281 := f280.keep K257
          have f282 := f281.keep K259
          have f283 := f282.keep K273
          have f284 := f283.keep K276
          have f285 := f10.exa.keep K11
          have f286 := f285.keep K257
          have f287 := f286.keep K259
          have f288 := f287.keep K273
          have f289 := f288.keep K276
          refine own_spec X276 148 (a := b276) (argsL := [(.ref r7), (.ref r9)]) (rest := [(.ref b276)]) at_145 rfl (rm13 l Z a0 hw n0 h276 hWd [] X276.old b276 r7 r9 E276 f277 f278 f284 f289 (own_svb X276 (List.mem_of_getElem? (i := 0) rfl))) (hw _ (List.mem_of_getElem? (i := 57) rfl)) (hw _ (List.mem_of_getElem? (i := 58) rfl)) (hw _ (List.mem_of_getElem? (i := 56) rfl)) (hw _ (List.mem_of_getElem? (i := 59) rfl)) (by decide) (lenOf pd__28Ljava_2flang_2fString_3bLjava_2flang_2fString_3b_29V rfl) rfl rfl rfl (W := 1) rfl (by decide) (by decide) (by decide) (by decide) (allS (List.mem_of_getElem? (i := 0) rfl) all0) rfl ?_
          intro T290 h290 v290 X290 K290 hQ290
          obtain ⟨rfl, f291, f292⟩ := hQ290
          show OGo _ _ _ _ T290 (mkF m 148 #[.val (.int k1), .val (.int u1), .val (.int k2), .val (.int u2), .val (.int pm), .val (.int (0 : Int32)), .val (.int (0 : Int32)), .val (.int ((XT.ushr pm (2 : Int32)) &&& (3 : Int32))), .val (.ref r3), .val (.ref r5), .val (.ref r7), .val (.ref r9), .val (.int (1 : Int32)), .val (.int (0 : Int32)), .val (.ref b259), .unset, .unset, .unset, .unset] [(.ref b276)])
          refine og_astore X290 150 #[.val (.int k1), .val (.int u1), .val (.int k2), .val (.int u2), .val (.int pm), .val (.int (0 : Int32)), .val (.int (0 : Int32)), .val (.int ((XT.ushr pm (2 : Int32)) &&& (3 : Int32))), .val (.ref r3), .val (.ref r5), .val (.ref r7), .val (.ref r9), .val (.int (1 : Int32)), .val (.int (0 : Int32)), .val (.ref b259), .val (.ref b276), .unset, .unset, .unset] at_148 rfl rfl rfl ?_
          refine og_iload X290 152 at_150 rfl rfl ?_
          by_cases hc293 : ((XT.ushr pm (2 : Int32)) &&& (3 : Int32)) = 0
          · -- ((XT.ushr pm (2 : Int32)) &&& (3 : Int32)) = 0
            refine og_ifN X290 155 at_152 (XT.i0_ne_f hc293) rfl ?_
            refine og_aload X290 157 at_155 rfl rfl rfl ?_
            refine og_astore X290 159 #[.val (.int k1), .val (.int u1), .val (.int k2), .val (.int u2), .val (.int pm), .val (.int (0 : Int32)), .val (.int (0 : Int32)), .val (.int ((XT.ushr pm (2 : Int32)) &&& (3 : Int32))), .val (.ref r3), .val (.ref r5), .val (.ref r7), .val (.ref r9), .val (.int (1 : Int32)), .val (.int (0 : Int32)), .val (.ref b259), .val (.ref b276), .val (.ref b276), .unset, .unset] at_157 rfl rfl rfl ?_
            refine og_iload X290 161 at_159 rfl rfl ?_
            refine og_ifN X290 164 at_161 (XT.i0_eq_f (by decide)) rfl ?_
            refine og_iload X290 166 at_164 rfl rfl ?_
            refine og_ifY X290 173 at_166 (XT.i0_eq_t (by decide)) (by decide) (by decide) ?_
            refine og_iconst X290 174 (0 : Int32) at_173 rfl rfl ?_
            refine og_istore X290 176 #[.val (.int k1), .val (.int u1), .val (.int k2), .val (.int u2), .val (.int pm), .val (.int (0 : Int32)), .val (.int (0 : Int32)), .val (.int ((XT.ushr pm (2 : Int32)) &&& (3 : Int32))), .val (.ref r3), .val (.ref r5), .val (.ref r7), .val (.ref r9), .val (.int (1 : Int32)), .val (.int (0 : Int32)), .val (.ref b259), .val (.ref b276), .val (.ref b276), .val (.int (0 : Int32)), .unset] at_174 rfl rfl ?_
            refine og_goto X290 217 at_176 (by decide) (by decide) ?_
            refine og_aload X290 219 at_217 rfl rfl rfl ?_
            refine og_aload X290 221 at_219 rfl rfl rfl ?_
            have f294 := E259.keep K273
            have f295 := f294.keep K276
            have f296 := f295.keep K290
            have f297 := E276.keep K290
            have f298 := f274.keep K276 nin0
            have f299 := f298.keep K290 (ninS (Nat.ne_of_lt (Nat.lt_of_lt_of_le (Nat.lt_of_lt_of_le U259 K273.1) G276)) nin0)
            have f300 := f275.keep K276 nin0
            have f301 := f300.keep K290 (ninS (Nat.ne_of_lt (Nat.lt_of_lt_of_le (Nat.lt_of_lt_of_le U259 K273.1) G276)) nin0)
            have f302 := f4.keep K5 all0
            have f303 := f302.keep K7 all0
            have f304 := f303.keep K9 all0
            have f305 := f304.keep K11 all0
            have f306 := f305.keep K257 all0
            have f307 := f306.keep K259 all0
            have f308 := f307.keep K273 (allS (Or.inl (Nat.le_trans (Nat.le_trans (Nat.le_trans (Nat.le_trans (Nat.le_trans K5.1 K7.1) K9.1) K11.1) K257.1) G259)) all0)
            have f309 := f308.keep K276 all0
            have f310 := f309.keep K290 (allS (Or.inl (Nat.le_trans (Nat.le_trans (Nat.le_trans (Nat.le_trans (Nat.le_trans (Nat.le_trans (Nat.le_trans K5.1 K7.1) K9.1) K11.1) K257.1) K259.1) K273.1) G276)) all0)
            have f311 := f6.keep K7 all0
            have f312 := f311.keep K9 all0
            have f313 := f312.keep K11 all0
            have f314 := f313.keep K257 all0
            have f315 := f314.keep K259 all0
            have f316 := f315.keep K273 (allS (Or.inl (Nat.le_trans (Nat.le_trans (Nat.le_trans (Nat.le_trans K7.1 K9.1) K11.1) K257.1) G259)) all0)
            have f317 := f316.keep K276 all0
            have f318 := f317.keep K290 (allS (Or.inl (Nat.le_trans (Nat.le_trans (Nat.le_trans (Nat.le_trans (Nat.le_trans (Nat.le_trans K7.1 K9.1) K11.1) K257.1) K259.1) K273.1) G276)) all0)
            have f319 := f8.keep K9 all0
            have f320 := f319.keep K11 all0
            have f321 := f320.keep K257 all0
            have f322 := f321.keep K259 all0
            have f323 := f322.keep K273 (allS (Or.inl (Nat.le_trans (Nat.le_trans (Nat.le_trans K9.1 K11.1) K257.1) G259)) all0)
            have f324 := f323.keep K276 all0
            have f325 := f324.keep K290 (allS (Or.inl (Nat.le_trans (Nat.le_trans (Nat.le_trans (Nat.le_trans (Nat.le_trans K9.1 K11.1) K257.1) K259.1) K273.1) G276)) all0)
            have f326 := f10.keep K11 all0
            have f327 := f326.keep K257 all0
            have f328 := f327.keep K259 all0
            have f329 := f328.keep K273 (allS (Or.inl (Nat.le_trans (Nat.le_trans K11.1 K257.1) G259)) all0)
            have f330 := f329.keep K276 all0
            have f331 := f330.keep K290 (allS (Or.inl (Nat.le_trans (Nat.le_trans (Nat.le_trans (Nat.le_trans K11.1 K257.1) K259.1) K273.1) G276)) all0)
            refine own_virt X290 224 (a := b259) (argsL := [(.ref b276)]) (rest := []) at_221 f296 (fun _ hZ => notFace_of_selects (args := #[]) (mvT hZ (hw _ (List.mem_of_getElem? (i := 73) rfl)))) (rm_eqK l Z a0 hw n0 h290 hWd [] X290.old b259 b276 r3 r5 r7 r9 (own_mk k1) (own_mk u1) (own_mk k2) (own_mk u2) f297 f299 f301 f291 f292 f310.top f318.top f325.top f331.top ) (hw _ (List.mem_of_getElem? (i := 70) rfl)) (hw _ (List.mem_of_getElem? (i := 71) rfl)) (hw _ (List.mem_of_getElem? (i := 73) rfl)) (hw _ (List.mem_of_getElem? (i := 72) rfl)) (hw _ (List.mem_of_getElem? (i := 56) rfl)) (hw _ (List.mem_of_getElem? (i := 74) rfl)) (by decide) (lenOf pd__28Ljava_2flang_2fObject_3b_29Z rfl) rfl rfl rfl (W := 0) rfl (by decide) (by decide) (by decide) (by decide) all0 rfl ?_
            intro T332 h332 v332 X332 K332 hQ332
            obtain rfl := hQ332
            show OGo _ _ _ _ T332 (mkF m 224 #[.val (.int k1), .val (.int u1), .val (.int k2), .val (.int u2), .val (.int pm), .val (.int (0 : Int32)), .val (.int (0 : Int32)), .val (.int ((XT.ushr pm (2 : Int32)) &&& (3 : Int32))), .val (.ref r3), .val (.ref r5), .val (.ref r7), .val (.ref r9), .val (.int (1 : Int32)), .val (.int (0 : Int32)), .val (.ref b259), .val (.ref b276), .val (.ref b276), .val (.int (0 : Int32)), .unset] [(.int (own_eq2 (own_mk k1) (own_mk u1) (own_mk k2) (own_mk u2)))])
            refine og_istore X332 226 #[.val (.int k1), .val (.int u1), .val (.int k2), .val (.int u2), .val (.int pm), .val (.int (0 : Int32)), .val (.int (0 : Int32)), .val (.int ((XT.ushr pm (2 : Int32)) &&& (3 : Int32))), .val (.ref r3), .val (.ref r5), .val (.ref r7), .val (.ref r9), .val (.int (1 : Int32)), .val (.int (0 : Int32)), .val (.ref b259), .val (.ref b276), .val (.ref b276), .val (.int (0 : Int32)), .val (.int (own_eq2 (own_mk k1) (own_mk u1) (own_mk k2) (own_mk u2)))] at_224 rfl rfl ?_
            refine og_iload X332 228 at_226 rfl rfl ?_
            refine og_ifN X332 231 at_228 (XT.i0_ne_f hc293) rfl ?_
            refine og_iload X332 233 at_231 rfl rfl ?_
            refine og_iload X332 235 at_233 rfl rfl ?_
            refine og_icmpN X332 238 at_235 (XT.ii_ne_f (own_eq2_0 fun q => (own_eqb0.mp hc258) q.2)) rfl ?_
            refine og_aload X332 240 at_238 rfl rfl rfl ?_
            refine og_aload X332 242 at_240 rfl rfl rfl ?_
            have f333 := f297.keep K332
            have f334 := f296.keep K332
            have f335 := f291.keep K332 nin0
            have f336 := f292.keep K332 nin0
            have f337 := f299.keep K332 nin0
            have f338 := f301.keep K332 nin0
            have f339 := f325.keep K332 all0
            have f340 := f331.keep K332 all0
            have f341 := f310.keep K332 all0
            have f342 := f318.keep K332 all0
            refine own_virt X332 245 (a := b276) (argsL := [(.ref b259)]) (rest := []) at_242 f333 (fun _ hZ => notFace_of_selects (args := #[]) (mvT hZ (hw _ (List.mem_of_getElem? (i := 73) rfl)))) (rm_eqK l Z a0 hw n0 h332 hWd [] X332.old b276 b259 r7 r9 r3 r5 (own_mk k2) (own_mk u2) (own_mk k1) (own_mk u1) f334 f335 f336 f337 f338 f339.top f340.top f341.top f342.top ) (hw _ (List.mem_of_getElem? (i := 70) rfl)) (hw _ (List.mem_of_getElem? (i := 71) rfl)) (hw _ (List.mem_of_getElem? (i := 73) rfl)) (hw _ (List.mem_of_getElem? (i := 72) rfl)) (hw _ (List.mem_of_getElem? (i := 56) rfl)) (hw _ (List.mem_of_getElem? (i := 74) rfl)) (by decide) (lenOf pd__28Ljava_2flang_2fObject_3b_29Z rfl) rfl rfl rfl (W := 0) rfl (by decide) (by decide) (by decide) (by decide) all0 rfl ?_
            intro T343 h343 v343 X343 K343 hQ343
            obtain rfl := hQ343
            show OGo _ _ _ _ T343 (mkF m 245 #[.val (.int k1), .val (.int u1), .val (.int k2), .val (.int u2), .val (.int pm), .val (.int (0 : Int32)), .val (.int (0 : Int32)), .val (.int ((XT.ushr pm (2 : Int32)) &&& (3 : Int32))), .val (.ref r3), .val (.ref r5), .val (.ref r7), .val (.ref r9), .val (.int (1 : Int32)), .val (.int (0 : Int32)), .val (.ref b259), .val (.ref b276), .val (.ref b276), .val (.int (0 : Int32)), .val (.int (own_eq2 (own_mk k1) (own_mk u1) (own_mk k2) (own_mk u2)))] [(.int (own_eq2 (own_mk k2) (own_mk u2) (own_mk k1) (own_mk u1)))])
            refine og_iload X343 247 at_245 rfl rfl ?_
            refine og_icmpN X343 250 at_247 (XT.ii_ne_f (own_eq2_0 fun q => (fun z => own_eqb0.mp hc258 z.symm) q.2)) rfl ?_
            refine og_iconst X343 251 (1 : Int32) at_250 rfl rfl ?_
            refine og_goto X343 255 at_251 (by decide) (by decide) ?_
            refine own_retZ X343 at_255 hret rfl (by decide) (by decide) ?_
            exact rfl
          · -- not
            refine og_ifY X290 179 at_152 (XT.i0_ne_t hc293) (by decide) (by decide) ?_
            refine og_iload X290 181 at_179 rfl rfl ?_
            refine og_iconst X290 182 (1 : Int32) at_181 rfl rfl ?_
            by_cases hc344 : ((XT.ushr pm (2 : Int32)) &&& (3 : Int32)) = (1 : Int32)
            · -- ((XT.ushr pm (2 : Int32)) &&& (3 : Int32)) = (1 : Int32)
              refine og_icmpN X290 185 at_182 (XT.ii_ne_f hc344) rfl ?_
              refine og_aconstNull X290 186 at_185 rfl ?_
              refine og_astore X290 188 #[.val (.int k1), .val (.int u1), .val (.int k2), .val (.int u2), .val (.int pm), .val (.int (0 : Int32)), .val (.int (0 : Int32)), .val (.int ((XT.ushr pm (2 : Int32)) &&& (3 : Int32))), .val (.ref r3), .val (.ref r5), .val (.ref r7), .val (.ref r9), .val (.int (1 : Int32)), .val (.int (0 : Int32)), .val (.ref b259), .val (.ref b276), .val .null, .unset, .unset] at_186 rfl rfl rfl ?_
              refine og_iconst X290 189 (0 : Int32) at_188 rfl rfl ?_
              refine og_istore X290 191 #[.val (.int k1), .val (.int u1), .val (.int k2), .val (.int u2), .val (.int pm), .val (.int (0 : Int32)), .val (.int (0 : Int32)), .val (.int ((XT.ushr pm (2 : Int32)) &&& (3 : Int32))), .val (.ref r3), .val (.ref r5), .val (.ref r7), .val (.ref r9), .val (.int (1 : Int32)), .val (.int (0 : Int32)), .val (.ref b259), .val (.ref b276), .val .null, .val (.int (0 : Int32)), .unset] at_189 rfl rfl ?_
              refine og_goto X290 217 at_191 (by decide) (by decide) ?_
              refine og_aload X290 219 at_217 rfl rfl rfl ?_
              refine og_aload X290 221 at_219 rfl rfl rfl ?_
              have f345 := E259.keep K273
              have f346 := f345.keep K276
              have f347 := f346.keep K290
              refine own_virt X290 224 (a := b259) (argsL := [.null]) (rest := []) at_221 f347 (fun _ hZ => notFace_of_selects (args := #[]) (mvT hZ (hw _ (List.mem_of_getElem? (i := 73) rfl)))) (rm_eqN l Z a0 hw n0 h290 hWd [] X290.old b259  ) (hw _ (List.mem_of_getElem? (i := 70) rfl)) (hw _ (List.mem_of_getElem? (i := 71) rfl)) (hw _ (List.mem_of_getElem? (i := 73) rfl)) (hw _ (List.mem_of_getElem? (i := 72) rfl)) (hw _ (List.mem_of_getElem? (i := 56) rfl)) (hw _ (List.mem_of_getElem? (i := 74) rfl)) (by decide) (lenOf pd__28Ljava_2flang_2fObject_3b_29Z rfl) rfl rfl rfl (W := 0) rfl (by decide) (by decide) (by decide) (by decide) all0 rfl ?_
              intro T348 h348 v348 X348 K348 hQ348
              obtain rfl := hQ348
              show OGo _ _ _ _ T348 (mkF m 224 #[.val (.int k1), .val (.int u1), .val (.int k2), .val (.int u2), .val (.int pm), .val (.int (0 : Int32)), .val (.int (0 : Int32)), .val (.int ((XT.ushr pm (2 : Int32)) &&& (3 : Int32))), .val (.ref r3), .val (.ref r5), .val (.ref r7), .val (.ref r9), .val (.int (1 : Int32)), .val (.int (0 : Int32)), .val (.ref b259), .val (.ref b276), .val .null, .val (.int (0 : Int32)), .unset] [(.int (0 : Int32))])
              refine og_istore X348 226 #[.val (.int k1), .val (.int u1), .val (.int k2), .val (.int u2), .val (.int pm), .val (.int (0 : Int32)), .val (.int (0 : Int32)), .val (.int ((XT.ushr pm (2 : Int32)) &&& (3 : Int32))), .val (.ref r3), .val (.ref r5), .val (.ref r7), .val (.ref r9), .val (.int (1 : Int32)), .val (.int (0 : Int32)), .val (.ref b259), .val (.ref b276), .val .null, .val (.int (0 : Int32)), .val (.int (0 : Int32))] at_224 rfl rfl ?_
              refine og_iload X348 228 at_226 rfl rfl ?_
              refine og_ifY X348 256 at_228 (XT.i0_ne_t hc293) (by decide) (by decide) ?_
              refine og_iload X348 258 at_256 rfl rfl ?_
              refine og_iload X348 260 at_258 rfl rfl ?_
              refine og_icmpN X348 263 at_260 (XT.ii_ne_f (by decide)) rfl ?_
              refine og_iconst X348 264 (1 : Int32) at_263 rfl rfl ?_
              refine og_goto X348 268 at_264 (by decide) (by decide) ?_
              refine own_retZ X348 at_268 hret rfl (by decide) (by decide) ?_
              exact rfl
            · -- not
              refine og_icmpY X290 194 at_182 (XT.ii_ne_t hc344) (by decide) (by decide) ?_
              refine og_iload X290 196 at_194 rfl rfl ?_
              refine og_iconst X290 197 (2 : Int32) at_196 rfl rfl ?_
              by_cases hc349 : ((XT.ushr pm (2 : Int32)) &&& (3 : Int32)) = (2 : Int32)
              · -- ((XT.ushr pm (2 : Int32)) &&& (3 : Int32)) = (2 : Int32)
                refine og_icmpN X290 200 at_197 (XT.ii_ne_f hc349) rfl ?_
                refine og_aload X290 202 at_200 rfl rfl rfl ?_
                refine og_astore X290 204 #[.val (.int k1), .val (.int u1), .val (.int k2), .val (.int u2), .val (.int pm), .val (.int (0 : Int32)), .val (.int (0 : Int32)), .val (.int ((XT.ushr pm (2 : Int32)) &&& (3 : Int32))), .val (.ref r3), .val (.ref r5), .val (.ref r7), .val (.ref r9), .val (.int (1 : Int32)), .val (.int (0 : Int32)), .val (.ref b259), .val (.ref b276), .val (.ref r7), .unset, .unset] at_202 rfl rfl rfl ?_
                refine og_iconst X290 205 (0 : Int32) at_204 rfl rfl ?_
                refine og_istore X290 207 #[.val (.int k1), .val (.int u1), .val (.int k2), .val (.int u2), .val (.int pm), .val (.int (0 : Int32)), .val (.int (0 : Int32)), .val (.int ((XT.ushr pm (2 : Int32)) &&& (3 : Int32))), .val (.ref r3), .val (.ref r5), .val (.ref r7), .val (.ref r9), .val (.int (1 : Int32)), .val (.int (0 : Int32)), .val (.ref b259), .val (.ref b276), .val (.ref r7), .val (.int (0 : Int32)), .unset] at_205 rfl rfl ?_
                refine og_goto X290 217 at_207 (by decide) (by decide) ?_
                refine og_aload X290 219 at_217 rfl rfl rfl ?_
                refine og_aload X290 221 at_219 rfl rfl rfl ?_
                have f350 := E259.keep K273
                have f351 := f350.keep K276
                have f352 := f351.keep K290
                have f353 := f284.keep K290
                refine own_virt X290 224 (a := b259) (argsL := [(.ref r7)]) (rest := []) at_221 f352 (fun _ hZ => notFace_of_selects (args := #[]) (mvT hZ (hw _ (List.mem_of_getElem? (i := 73) rfl)))) (rm_eqS l Z a0 hw n0 h290 hWd [] X290.old b259 r7 f353 ) (hw _ (List.mem_of_getElem? (i := 70) rfl)) (hw _ (List.mem_of_getElem? (i := 71) rfl)) (hw _ (List.mem_of_getElem? (i := 73) rfl)) (hw _ (List.mem_of_getElem? (i := 72) rfl)) (hw _ (List.mem_of_getElem? (i := 56) rfl)) (hw _ (List.mem_of_getElem? (i := 74) rfl)) (by decide) (lenOf pd__28Ljava_2flang_2fObject_3b_29Z rfl) rfl rfl rfl (W := 0) rfl (by decide) (by decide) (by decide) (by decide) all0 rfl ?_
                intro T354 h354 v354 X354 K354 hQ354
                obtain rfl := hQ354
                show OGo _ _ _ _ T354 (mkF m 224 #[.val (.int k1), .val (.int u1), .val (.int k2), .val (.int u2), .val (.int pm), .val (.int (0 : Int32)), .val (.int (0 : Int32)), .val (.int ((XT.ushr pm (2 : Int32)) &&& (3 : Int32))), .val (.ref r3), .val (.ref r5), .val (.ref r7), .val (.ref r9), .val (.int (1 : Int32)), .val (.int (0 : Int32)), .val (.ref b259), .val (.ref b276), .val (.ref r7), .val (.int (0 : Int32)), .unset] [(.int (0 : Int32))])
                refine og_istore X354 226 #[.val (.int k1), .val (.int u1), .val (.int k2), .val (.int u2), .val (.int pm), .val (.int (0 : Int32)), .val (.int (0 : Int32)), .val (.int ((XT.ushr pm (2 : Int32)) &&& (3 : Int32))), .val (.ref r3), .val (.ref r5), .val (.ref r7), .val (.ref r9), .val (.int (1 : Int32)), .val (.int (0 : Int32)), .val (.ref b259), .val (.ref b276), .val (.ref r7), .val (.int (0 : Int32)), .val (.int (0 : Int32))] at_224 rfl rfl ?_
                refine og_iload X354 228 at_226 rfl rfl ?_
                refine og_ifY X354 256 at_228 (XT.i0_ne_t hc293) (by decide) (by decide) ?_
                refine og_iload X354 258 at_256 rfl rfl ?_
                refine og_iload X354 260 at_258 rfl rfl ?_
                refine og_icmpN X354 263 at_260 (XT.ii_ne_f (by decide)) rfl ?_
                refine og_iconst X354 264 (1 : Int32) at_263 rfl rfl ?_
                refine og_goto X354 268 at_264 (by decide) (by decide) ?_
                refine own_retZ X354 at_268 hret rfl (by decide) (by decide) ?_
                exact rfl
              · -- not
                refine og_icmpY X290 210 at_197 (XT.ii_ne_t hc349) (by decide) (by decide) ?_
                refine og_aload X290 212 at_210 rfl rfl rfl ?_
                refine og_astore X290 214 #[.val (.int k1), .val (.int u1), .val (.int k2), .val (.int u2), .val (.int pm), .val (.int (0 : Int32)), .val (.int (0 : Int32)), .val (.int ((XT.ushr pm (2 : Int32)) &&& (3 : Int32))), .val (.ref r3), .val (.ref r5), .val (.ref r7), .val (.ref r9), .val (.int (1 : Int32)), .val (.int (0 : Int32)), .val (.ref b259), .val (.ref b276), .val (.ref b259), .unset, .unset] at_212 rfl rfl rfl ?_
                refine og_iconst X290 215 (1 : Int32) at_214 rfl rfl ?_
                refine og_istore X290 217 #[.val (.int k1), .val (.int u1), .val (.int k2), .val (.int u2), .val (.int pm), .val (.int (0 : Int32)), .val (.int (0 : Int32)), .val (.int ((XT.ushr pm (2 : Int32)) &&& (3 : Int32))), .val (.ref r3), .val (.ref r5), .val (.ref r7), .val (.ref r9), .val (.int (1 : Int32)), .val (.int (0 : Int32)), .val (.ref b259), .val (.ref b276), .val (.ref b259), .val (.int (1 : Int32)), .unset] at_215 rfl rfl ?_
                refine og_aload X290 219 at_217 rfl rfl rfl ?_
                refine og_aload X290 221 at_219 rfl rfl rfl ?_
                have f355 := E259.keep K273
                have f356 := f355.keep K276
                have f357 := f356.keep K290
                have f358 := f274.keep K276 nin0
                have f359 := f358.keep K290 (ninS (Nat.ne_of_lt (Nat.lt_of_lt_of_le (Nat.lt_of_lt_of_le U259 K273.1) G276)) nin0)
                have f360 := f275.keep K276 nin0
                have f361 := f360.keep K290 (ninS (Nat.ne_of_lt (Nat.lt_of_lt_of_le (Nat.lt_of_lt_of_le U259 K273.1) G276)) nin0)
                have f362 := f4.keep K5 all0
                have f363 := f362.keep K7 all0
                have f364 := f363.keep K9 all0
                have f365 := f364.keep K11 all0
                have f366 := f365.keep K257 all0
                have f367 := f366.keep K259 all0
                have f368 := f367.keep K273 (allS (Or.inl (Nat.le_trans (Nat.le_trans (Nat.le_trans (Nat.le_trans (Nat.le_trans K5.1 K7.1) K9.1) K11.1) K257.1) G259)) all0)
                have f369 := f368.keep K276 all0
                have f370 := f369.keep K290 (allS (Or.inl (Nat.le_trans (Nat.le_trans (Nat.le_trans (Nat.le_trans (Nat.le_trans (Nat.le_trans (Nat.le_trans K5.1 K7.1) K9.1) K11.1) K257.1) K259.1) K273.1) G276)) all0)
                have f371 := f6.keep K7 all0
                have f372 := f371.keep K9 all0
                have f373 := f372.keep K11 all0
                have f374 := f373.keep K257 all0
                have f375 := f374.keep K259 all0
                have f376 := f375.keep K273 (allS (Or.inl (Nat.le_trans (Nat.le_trans (Nat.le_trans (Nat.le_trans K7.1 K9.1) K11.1) K257.1) G259)) all0)
                have f377 := f376.keep K276 all0
                have f378 := f377.keep K290 (allS (Or.inl (Nat.le_trans (Nat.le_trans (Nat.le_trans (Nat.le_trans (Nat.le_trans (Nat.le_trans K7.1 K9.1) K11.1) K257.1) K259.1) K273.1) G276)) all0)
                refine own_virt X290 224 (a := b259) (argsL := [(.ref b259)]) (rest := []) at_221 f357 (fun _ hZ => notFace_of_selects (args := #[]) (mvT hZ (hw _ (List.mem_of_getElem? (i := 73) rfl)))) (rm_eqK l Z a0 hw n0 h290 hWd [] X290.old b259 b259 r3 r5 r3 r5 (own_mk k1) (own_mk u1) (own_mk k1) (own_mk u1) f357 f359 f361 f359 f361 f370.top f378.top f370.top f378.top ) (hw _ (List.mem_of_getElem? (i := 70) rfl)) (hw _ (List.mem_of_getElem? (i := 71) rfl)) (hw _ (List.mem_of_getElem? (i := 73) rfl)) (hw _ (List.mem_of_getElem? (i := 72) rfl)) (hw _ (List.mem_of_getElem? (i := 56) rfl)) (hw _ (List.mem_of_getElem? (i := 74) rfl)) (by decide) (lenOf pd__28Ljava_2flang_2fObject_3b_29Z rfl) rfl rfl rfl (W := 0) rfl (by decide) (by decide) (by decide) (by decide) all0 rfl ?_
                intro T379 h379 v379 X379 K379 hQ379
                obtain rfl := hQ379
                show OGo _ _ _ _ T379 (mkF m 224 #[.val (.int k1), .val (.int u1), .val (.int k2), .val (.int u2), .val (.int pm), .val (.int (0 : Int32)), .val (.int (0 : Int32)), .val (.int ((XT.ushr pm (2 : Int32)) &&& (3 : Int32))), .val (.ref r3), .val (.ref r5), .val (.ref r7), .val (.ref r9), .val (.int (1 : Int32)), .val (.int (0 : Int32)), .val (.ref b259), .val (.ref b276), .val (.ref b259), .val (.int (1 : Int32)), .unset] [(.int (own_eq2 (own_mk k1) (own_mk u1) (own_mk k1) (own_mk u1)))])
                refine og_istore X379 226 #[.val (.int k1), .val (.int u1), .val (.int k2), .val (.int u2), .val (.int pm), .val (.int (0 : Int32)), .val (.int (0 : Int32)), .val (.int ((XT.ushr pm (2 : Int32)) &&& (3 : Int32))), .val (.ref r3), .val (.ref r5), .val (.ref r7), .val (.ref r9), .val (.int (1 : Int32)), .val (.int (0 : Int32)), .val (.ref b259), .val (.ref b276), .val (.ref b259), .val (.int (1 : Int32)), .val (.int (own_eq2 (own_mk k1) (own_mk u1) (own_mk k1) (own_mk u1)))] at_224 rfl rfl ?_
                refine og_iload X379 228 at_226 rfl rfl ?_
                refine og_ifY X379 256 at_228 (XT.i0_ne_t hc293) (by decide) (by decide) ?_
                refine og_iload X379 258 at_256 rfl rfl ?_
                refine og_iload X379 260 at_258 rfl rfl ?_
                refine og_icmpN X379 263 at_260 (XT.ii_ne_f (own_eq2_1 rfl rfl)) rfl ?_
                refine og_iconst X379 264 (1 : Int32) at_263 rfl rfl ?_
                refine og_goto X379 268 at_264 (by decide) (by decide) ?_
                refine own_retZ X379 at_268 hret rfl (by decide) (by decide) ?_
                exact rfl
        · -- not
          refine og_ifN X257 117 at_114 (XT.i0_eq_f hc258) rfl ?_
          refine og_iconst X257 118 (1 : Int32) at_117 rfl rfl ?_
          refine og_goto X257 122 at_118 (by decide) (by decide) ?_
          refine og_istore X257 124 #[.val (.int k1), .val (.int u1), .val (.int k2), .val (.int u2), .val (.int pm), .val (.int (0 : Int32)), .val (.int (0 : Int32)), .val (.int ((XT.ushr pm (2 : Int32)) &&& (3 : Int32))), .val (.ref r3), .val (.ref r5), .val (.ref r7), .val (.ref r9), .val (.int (1 : Int32)), .val (.int (1 : Int32)), .unset, .unset, .unset, .unset, .unset] at_122 rfl rfl ?_
          refine own_new X257 127 at_124 (hw _ (List.mem_of_getElem? (i := 54) rfl)) (hw _ (List.mem_of_getElem? (i := 55) rfl)) (hw _ (List.mem_of_getElem? (i := 56) rfl)) (by decide) (by decide) rfl ?_
          intro T380 h380 b380 X380 K380 G380 U380 E380 D380
          have f381 : Fld Z h380 b380 "com/example/chitragupta/chitragupta/model/HelpdeskSite" "kind" "Ljava/lang/String;" .null := D380 (Or.inr (hw _ (List.mem_of_getElem? (i := 67) rfl))) (ty := (.object "java/lang/String")) (by decide)
          have f382 : Fld Z h380 b380 "com/example/chitragupta/chitragupta/model/HelpdeskSite" "url" "Ljava/lang/String;" .null := D380 (Or.inr (hw _ (List.mem_of_getElem? (i := 69) rfl))) (ty := (.object "java/lang/String")) (by decide)
          refine og_dup X380 128 at_127 rfl rfl ?_
          refine og_aload X380 130 at_128 rfl rfl rfl ?_
          refine og_aload X380 132 at_130 rfl rfl rfl ?_
          have f383 := f4.exa.keep K5
          have f384 := f383.keep K7
          have f385 := f384.keep K9
          have f386 := f385.keep K11
          have f387 := f386.keep K257
          have f388 := f387.keep K380
          have f389 := f6.exa.keep K7
          have f390 := f389.keep K9
          have f391 := f390.keep K11
          have f392 := f391.keep K257
          have f393 := f392.keep K380
          refine own_spec X380 135 (a := b380) (argsL := [(.ref r3), (.ref r5)]) (rest := [(.ref b380)]) at_132 rfl (rm13 l Z a0 hw n0 h380 hWd [] X380.old b380 r3 r5 E380 f381 f382 f388 f393 (own_svb X380 (List.mem_of_getElem? (i := 0) rfl))) (hw _ (List.mem_of_getElem? (i := 57) rfl)) (hw _ (List.mem_of_getElem? (i := 58) rfl)) (hw _ (List.mem_of_getElem? (i := 56) rfl)) (hw _ (List.mem_of_getElem? (i := 59) rfl)) (by decide) (lenOf pd__28Ljava_2flang_2fString_3bLjava_2flang_2fString_3b_29V rfl) rfl rfl rfl (W := 1) rfl (by decide) (by decide) (by decide) (by decide) (allS (List.mem_of_getElem? (i := 0) rfl) all0) rfl ?_
          intro T394 h394 v394 X394 K394 hQ394
          obtain ⟨rfl, f395, f396⟩ := hQ394
          show OGo _ _ _ _ T394 (mkF m 135 #[.val (.int k1), .val (.int u1), .val (.int k2), .val (.int u2), .val (.int pm), .val (.int (0 : Int32)), .val (.int (0 : Int32)), .val (.int ((XT.ushr pm (2 : Int32)) &&& (3 : Int32))), .val (.ref r3), .val (.ref r5), .val (.ref r7), .val (.ref r9), .val (.int (1 : Int32)), .val (.int (1 : Int32)), .unset, .unset, .unset, .unset, .unset] [(.ref b380)])
          refine og_astore X394 137 #[.val (.int k1), .val (.int u1), .val (.int k2), .val (.int u2), .val (.int pm), .val (.int (0 : Int32)), .val (.int (0 : Int32)), .val (.int ((XT.ushr pm (2 : Int32)) &&& (3 : Int32))), .val (.ref r3), .val (.ref r5), .val (.ref r7), .val (.ref r9), .val (.int (1 : Int32)), .val (.int (1 : Int32)), .val (.ref b380), .unset, .unset, .unset, .unset] at_135 rfl rfl rfl ?_
          refine own_new X394 140 at_137 (hw _ (List.mem_of_getElem? (i := 54) rfl)) (hw _ (List.mem_of_getElem? (i := 55) rfl)) (hw _ (List.mem_of_getElem? (i := 56) rfl)) (by decide) (by decide) rfl ?_
          intro T397 h397 b397 X397 K397 G397 U397 E397 D397
          have f398 : Fld Z h397 b397 "com/example/chitragupta/chitragupta/model/HelpdeskSite" "kind" "Ljava/lang/String;" .null := D397 (Or.inr (hw _ (List.mem_of_getElem? (i := 67) rfl))) (ty := (.object "java/lang/String")) (by decide)
          have f399 : Fld Z h397 b397 "com/example/chitragupta/chitragupta/model/HelpdeskSite" "url" "Ljava/lang/String;" .null := D397 (Or.inr (hw _ (List.mem_of_getElem? (i := 69) rfl))) (ty := (.object "java/lang/String")) (by decide)
          refine og_dup X397 141 at_140 rfl rfl ?_
          refine og_aload X397 143 at_141 rfl rfl rfl ?_
          refine og_aload X397 145 at_143 rfl rfl rfl ?_
          have f400 := f8.exa.keep K9
          have f401 := f400.keep K11
          have f402 := f401.keep K257
          have f403 := f402.keep K380
          have f404 := f403.keep K394
          have f405 := f404.keep K397
          have f406 := f10.exa.keep K11
          have f407 := f406.keep K257
          have f408 := f407.keep K380
          have f409 := f408.keep K394
          have f410 := f409.keep K397
          refine own_spec X397 148 (a := b397) (argsL := [(.ref r7), (.ref r9)]) (rest := [(.ref b397)]) at_145 rfl (rm13 l Z a0 hw n0 h397 hWd [] X397.old b397 r7 r9 E397 f398 f399 f405 f410 (own_svb X397 (List.mem_of_getElem? (i := 0) rfl))) (hw _ (List.mem_of_getElem? (i := 57) rfl)) (hw _ (List.mem_of_getElem? (i := 58) rfl)) (hw _ (List.mem_of_getElem? (i := 56) rfl)) (hw _ (List.mem_of_getElem? (i := 59) rfl)) (by decide) (lenOf pd__28Ljava_2flang_2fString_3bLjava_2flang_2fString_3b_29V rfl) rfl rfl rfl (W := 1) rfl (by decide) (by decide) (by decide) (by decide) (allS (List.mem_of_getElem? (i := 0) rfl) all0) rfl ?_
          intro T411 h411 v411 X411 K411 hQ411
          obtain ⟨rfl, f412, f413⟩ := hQ411
          show OGo _ _ _ _ T411 (mkF m 148 #[.val (.int k1), .val (.int u1), .val (.int k2), .val (.int u2), .val (.int pm), .val (.int (0 : Int32)), .val (.int (0 : Int32)), .val (.int ((XT.ushr pm (2 : Int32)) &&& (3 : Int32))), .val (.ref r3), .val (.ref r5), .val (.ref r7), .val (.ref r9), .val (.int (1 : Int32)), .val (.int (1 : Int32)), .val (.ref b380), .unset, .unset, .unset, .unset] [(.ref b397)])
          refine og_astore X411 150 #[.val (.int k1), .val (.int u1), .val (.int k2), .val (.int u2), .val (.int pm), .val (.int (0 : Int32)), .val (.int (0 : Int32)), .val (.int ((XT.ushr pm (2 : Int32)) &&& (3 : Int32))), .val (.ref r3), .val (.ref r5), .val (.ref r7), .val (.ref r9), .val (.int (1 : Int32)), .val (.int (1 : Int32)), .val (.ref b380), .val (.ref b397), .unset, .unset, .unset] at_148 rfl rfl rfl ?_
          refine og_iload X411 152 at_150 rfl rfl ?_
          by_cases hc414 : ((XT.ushr pm (2 : Int32)) &&& (3 : Int32)) = 0
          · -- ((XT.ushr pm (2 : Int32)) &&& (3 : Int32)) = 0
            refine og_ifN X411 155 at_152 (XT.i0_ne_f hc414) rfl ?_
            refine og_aload X411 157 at_155 rfl rfl rfl ?_
            refine og_astore X411 159 #[.val (.int k1), .val (.int u1), .val (.int k2), .val (.int u2), .val (.int pm), .val (.int (0 : Int32)), .val (.int (0 : Int32)), .val (.int ((XT.ushr pm (2 : Int32)) &&& (3 : Int32))), .val (.ref r3), .val (.ref r5), .val (.ref r7), .val (.ref r9), .val (.int (1 : Int32)), .val (.int (1 : Int32)), .val (.ref b380), .val (.ref b397), .val (.ref b397), .unset, .unset] at_157 rfl rfl rfl ?_
            refine og_iload X411 161 at_159 rfl rfl ?_
            refine og_ifN X411 164 at_161 (XT.i0_eq_f (by decide)) rfl ?_
            refine og_iload X411 166 at_164 rfl rfl ?_
            refine og_ifN X411 169 at_166 (XT.i0_eq_f (by decide)) rfl ?_
            refine og_iconst X411 170 (1 : Int32) at_169 rfl rfl ?_
            refine og_goto X411 174 at_170 (by decide) (by decide) ?_
            refine og_istore X411 176 #[.val (.int k1), .val (.int u1), .val (.int k2), .val (.int u2), .val (.int pm), .val (.int (0 : Int32)), .val (.int (0 : Int32)), .val (.int ((XT.ushr pm (2 : Int32)) &&& (3 : Int32))), .val (.ref r3), .val (.ref r5), .val (.ref r7), .val (.ref r9), .val (.int (1 : Int32)), .val (.int (1 : Int32)), .val (.ref b380), .val (.ref b397), .val (.ref b397), .val (.int (1 : Int32)), .unset] at_174 rfl rfl ?_
            refine og_goto X411 217 at_176 (by decide) (by decide) ?_
            refine og_aload X411 219 at_217 rfl rfl rfl ?_
            refine og_aload X411 221 at_219 rfl rfl rfl ?_
            have f415 := E380.keep K394
            have f416 := f415.keep K397
            have f417 := f416.keep K411
            have f418 := E397.keep K411
            have f419 := f395.keep K397 nin0
            have f420 := f419.keep K411 (ninS (Nat.ne_of_lt (Nat.lt_of_lt_of_le (Nat.lt_of_lt_of_le U380 K394.1) G397)) nin0)
            have f421 := f396.keep K397 nin0
            have f422 := f421.keep K411 (ninS (Nat.ne_of_lt (Nat.lt_of_lt_of_le (Nat.lt_of_lt_of_le U380 K394.1) G397)) nin0)
            have f423 := f4.keep K5 all0
            have f424 := f423.keep K7 all0
            have f425 := f424.keep K9 all0
            have f426 := f425.keep K11 all0
            have f427 := f426.keep K257 all0
            have f428 := f427.keep K380 all0
            have f429 := f428.keep K394 (allS (Or.inl (Nat.le_trans (Nat.le_trans (Nat.le_trans (Nat.le_trans (Nat.le_trans K5.1 K7.1) K9.1) K11.1) K257.1) G380)) all0)
            have f430 := f429.keep K397 all0
            have f431 := f430.keep K411 (allS (Or.inl (Nat.le_trans (Nat.le_trans (Nat.le_trans (Nat.le_trans (Nat.le_trans (Nat.le_trans (Nat.le_trans K5.1 K7.1) K9.1) K11.1) K257.1) K380.1) K394.1) G397)) all0)
            have f432 := f6.keep K7 all0
            have f433 := f432.keep K9 all0
            have f434 := f433.keep K11 all0
            have f435 := f434.keep K257 all0
            have f436 := f435.keep K380 all0
            have f437 := f436.keep K394 (allS (Or.inl (Nat.le_trans (Nat.le_trans (Nat.le_trans (Nat.le_trans K7.1 K9.1) K11.1) K257.1) G380)) all0)
            have f438 := f437.keep K397 all0
            have f439 := f438.keep K411 (allS (Or.inl (Nat.le_trans (Nat.le_trans (Nat.le_trans (Nat.le_trans (Nat.le_trans (Nat.le_trans K7.1 K9.1) K11.1) K257.1) K380.1) K394.1) G397)) all0)
            have f440 := f8.keep K9 all0
            have f441 := f440.keep K11 all0
            have f442 := f441.keep K257 all0
            have f443 := f442.keep K380 all0
            have f444 := f443.keep K394 (allS (Or.inl (Nat.le_trans (Nat.le_trans (Nat.le_trans K9.1 K11.1) K257.1) G380)) all0)
            have f445 := f444.keep K397 all0
            have f446 := f445.keep K411 (allS (Or.inl (Nat.le_trans (Nat.le_trans (Nat.le_trans (Nat.le_trans (Nat.le_trans K9.1 K11.1) K257.1) K380.1) K394.1) G397)) all0)
            have f447 := f10.keep K11 all0
            have f448 := f447.keep K257 all0
            have f449 := f448.keep K380 all0
            have f450 := f449.keep K394 (allS (Or.inl (Nat.le_trans (Nat.le_trans K11.1 K257.1) G380)) all0)
            have f451 := f450.keep K397 all0
            have f452 := f451.keep K411 (allS (Or.inl (Nat.le_trans (Nat.le_trans (Nat.le_trans (Nat.le_trans K11.1 K257.1) K380.1) K394.1) G397)) all0)
            refine own_virt X411 224 (a := b380) (argsL := [(.ref b397)]) (rest := []) at_221 f417 (fun _ hZ => notFace_of_selects (args := #[]) (mvT hZ (hw _ (List.mem_of_getElem? (i := 73) rfl)))) (rm_eqK l Z a0 hw n0 h411 hWd [] X411.old b380 b397 r3 r5 r7 r9 (own_mk k1) (own_mk u1) (own_mk k2) (own_mk u2) f418 f420 f422 f412 f413 f431.top f439.top f446.top f452.top ) (hw _ (List.mem_of_getElem? (i := 70) rfl)) (hw _ (List.mem_of_getElem? (i := 71) rfl)) (hw _ (List.mem_of_getElem? (i := 73) rfl)) (hw _ (List.mem_of_getElem? (i := 72) rfl)) (hw _ (List.mem_of_getElem? (i := 56) rfl)) (hw _ (List.mem_of_getElem? (i := 74) rfl)) (by decide) (lenOf pd__28Ljava_2flang_2fObject_3b_29Z rfl) rfl rfl rfl (W := 0) rfl (by decide) (by decide) (by decide) (by decide) all0 rfl ?_
            intro T453 h453 v453 X453 K453 hQ453
            obtain rfl := hQ453
            show OGo _ _ _ _ T453 (mkF m 224 #[.val (.int k1), .val (.int u1), .val (.int k2), .val (.int u2), .val (.int pm), .val (.int (0 : Int32)), .val (.int (0 : Int32)), .val (.int ((XT.ushr pm (2 : Int32)) &&& (3 : Int32))), .val (.ref r3), .val (.ref r5), .val (.ref r7), .val (.ref r9), .val (.int (1 : Int32)), .val (.int (1 : Int32)), .val (.ref b380), .val (.ref b397), .val (.ref b397), .val (.int (1 : Int32)), .unset] [(.int (own_eq2 (own_mk k1) (own_mk u1) (own_mk k2) (own_mk u2)))])
            refine og_istore X453 226 #[.val (.int k1), .val (.int u1), .val (.int k2), .val (.int u2), .val (.int pm), .val (.int (0 : Int32)), .val (.int (0 : Int32)), .val (.int ((XT.ushr pm (2 : Int32)) &&& (3 : Int32))), .val (.ref r3), .val (.ref r5), .val (.ref r7), .val (.ref r9), .val (.int (1 : Int32)), .val (.int (1 : Int32)), .val (.ref b380), .val (.ref b397), .val (.ref b397), .val (.int (1 : Int32)), .val (.int (own_eq2 (own_mk k1) (own_mk u1) (own_mk k2) (own_mk u2)))] at_224 rfl rfl ?_
            refine og_iload X453 228 at_226 rfl rfl ?_
            refine og_ifN X453 231 at_228 (XT.i0_ne_f hc414) rfl ?_
            refine og_iload X453 233 at_231 rfl rfl ?_
            refine og_iload X453 235 at_233 rfl rfl ?_
            refine og_icmpN X453 238 at_235 (XT.ii_ne_f (own_eq2_1 (own_eqb_yes hc12) (own_eqb_yes hc258))) rfl ?_
            refine og_aload X453 240 at_238 rfl rfl rfl ?_
            refine og_aload X453 242 at_240 rfl rfl rfl ?_
            have f454 := f418.keep K453
            have f455 := f417.keep K453
            have f456 := f412.keep K453 nin0
            have f457 := f413.keep K453 nin0
            have f458 := f420.keep K453 nin0
            have f459 := f422.keep K453 nin0
            have f460 := f446.keep K453 all0
            have f461 := f452.keep K453 all0
            have f462 := f431.keep K453 all0
            have f463 := f439.keep K453 all0
            refine own_virt X453 245 (a := b397) (argsL := [(.ref b380)]) (rest := []) at_242 f454 (fun _ hZ => notFace_of_selects (args := #[]) (mvT hZ (hw _ (List.mem_of_getElem? (i := 73) rfl)))) (rm_eqK l Z a0 hw n0 h453 hWd [] X453.old b397 b380 r7 r9 r3 r5 (own_mk k2) (own_mk u2) (own_mk k1) (own_mk u1) f455 f456 f457 f458 f459 f460.top f461.top f462.top f463.top ) (hw _ (List.mem_of_getElem? (i := 70) rfl)) (hw _ (List.mem_of_getElem? (i := 71) rfl)) (hw _ (List.mem_of_getElem? (i := 73) rfl)) (hw _ (List.mem_of_getElem? (i := 72) rfl)) (hw _ (List.mem_of_getElem? (i := 56) rfl)) (hw _ (List.mem_of_getElem? (i := 74) rfl)) (by decide) (lenOf pd__28Ljava_2flang_2fObject_3b_29Z rfl) rfl rfl rfl (W := 0) rfl (by decide) (by decide) (by decide) (by decide) all0 rfl ?_
            intro T464 h464 v464 X464 K464 hQ464
            obtain rfl := hQ464
            show OGo _ _ _ _ T464 (mkF m 245 #[.val (.int k1), .val (.int u1), .val (.int k2), .val (.int u2), .val (.int pm), .val (.int (0 : Int32)), .val (.int (0 : Int32)), .val (.int ((XT.ushr pm (2 : Int32)) &&& (3 : Int32))), .val (.ref r3), .val (.ref r5), .val (.ref r7), .val (.ref r9), .val (.int (1 : Int32)), .val (.int (1 : Int32)), .val (.ref b380), .val (.ref b397), .val (.ref b397), .val (.int (1 : Int32)), .val (.int (own_eq2 (own_mk k1) (own_mk u1) (own_mk k2) (own_mk u2)))] [(.int (own_eq2 (own_mk k2) (own_mk u2) (own_mk k1) (own_mk u1)))])
            refine og_iload X464 247 at_245 rfl rfl ?_
            refine og_icmpN X464 250 at_247 (XT.ii_ne_f (own_eq2_1 (own_eqb_yes hc12).symm (own_eqb_yes hc258).symm)) rfl ?_
            refine og_iconst X464 251 (1 : Int32) at_250 rfl rfl ?_
            refine og_goto X464 255 at_251 (by decide) (by decide) ?_
            refine own_retZ X464 at_255 hret rfl (by decide) (by decide) ?_
            exact rfl
          · -- not
            refine og_ifY X411 179 at_152 (XT.i0_ne_t hc414) (by decide) (by decide) ?_
            refine og_iload X411 181 at_179 rfl rfl ?_
            refine og_iconst X411 182 (1 : Int32) at_181 rfl rfl ?_
            by_cases hc465 : ((XT.ushr pm (2 : Int32)) &&& (3 : Int32)) = (1 : Int32)
            · -- ((XT.ushr pm (2 : Int32)) &&& (3 : Int32)) = (1 : Int32)
              refine og_icmpN X411 185 at_182 (XT.ii_ne_f hc465) rfl ?_
              refine og_aconstNull X411 186 at_185 rfl ?_
              refine og_astore X411 188 #[.val (.int k1), .val (.int u1), .val (.int k2), .val (.int u2), .val (.int pm), .val (.int (0 : Int32)), .val (.int (0 : Int32)), .val (.int ((XT.ushr pm (2 : Int32)) &&& (3 : Int32))), .val (.ref r3), .val (.ref r5), .val (.ref r7), .val (.ref r9), .val (.int (1 : Int32)), .val (.int (1 : Int32)), .val (.ref b380), .val (.ref b397), .val .null, .unset, .unset] at_186 rfl rfl rfl ?_
              refine og_iconst X411 189 (0 : Int32) at_188 rfl rfl ?_
              refine og_istore X411 191 #[.val (.int k1), .val (.int u1), .val (.int k2), .val (.int u2), .val (.int pm), .val (.int (0 : Int32)), .val (.int (0 : Int32)), .val (.int ((XT.ushr pm (2 : Int32)) &&& (3 : Int32))), .val (.ref r3), .val (.ref r5), .val (.ref r7), .val (.ref r9), .val (.int (1 : Int32)), .val (.int (1 : Int32)), .val (.ref b380), .val (.ref b397), .val .null, .val (.int (0 : Int32)), .unset] at_189 rfl rfl ?_
              refine og_goto X411 217 at_191 (by decide) (by decide) ?_
              refine og_aload X411 219 at_217 rfl rfl rfl ?_
              refine og_aload X411 221 at_219 rfl rfl rfl ?_
              have f466 := E380.keep K394
              have f467 := f466.keep K397
              have f468 := f467.keep K411
              refine own_virt X411 224 (a := b380) (argsL := [.null]) (rest := []) at_221 f468 (fun _ hZ => notFace_of_selects (args := #[]) (mvT hZ (hw _ (List.mem_of_getElem? (i := 73) rfl)))) (rm_eqN l Z a0 hw n0 h411 hWd [] X411.old b380  ) (hw _ (List.mem_of_getElem? (i := 70) rfl)) (hw _ (List.mem_of_getElem? (i := 71) rfl)) (hw _ (List.mem_of_getElem? (i := 73) rfl)) (hw _ (List.mem_of_getElem? (i := 72) rfl)) (hw _ (List.mem_of_getElem? (i := 56) rfl)) (hw _ (List.mem_of_getElem? (i := 74) rfl)) (by decide) (lenOf pd__28Ljava_2flang_2fObject_3b_29Z rfl) rfl rfl rfl (W := 0) rfl (by decide) (by decide) (by decide) (by decide) all0 rfl ?_
              intro T469 h469 v469 X469 K469 hQ469
              obtain rfl := hQ469
              show OGo _ _ _ _ T469 (mkF m 224 #[.val (.int k1), .val (.int u1), .val (.int k2), .val (.int u2), .val (.int pm), .val (.int (0 : Int32)), .val (.int (0 : Int32)), .val (.int ((XT.ushr pm (2 : Int32)) &&& (3 : Int32))), .val (.ref r3), .val (.ref r5), .val (.ref r7), .val (.ref r9), .val (.int (1 : Int32)), .val (.int (1 : Int32)), .val (.ref b380), .val (.ref b397), .val .null, .val (.int (0 : Int32)), .unset] [(.int (0 : Int32))])
              refine og_istore X469 226 #[.val (.int k1), .val (.int u1), .val (.int k2), .val (.int u2), .val (.int pm), .val (.int (0 : Int32)), .val (.int (0 : Int32)), .val (.int ((XT.ushr pm (2 : Int32)) &&& (3 : Int32))), .val (.ref r3), .val (.ref r5), .val (.ref r7), .val (.ref r9), .val (.int (1 : Int32)), .val (.int (1 : Int32)), .val (.ref b380), .val (.ref b397), .val .null, .val (.int (0 : Int32)), .val (.int (0 : Int32))] at_224 rfl rfl ?_
              refine og_iload X469 228 at_226 rfl rfl ?_
              refine og_ifY X469 256 at_228 (XT.i0_ne_t hc414) (by decide) (by decide) ?_
              refine og_iload X469 258 at_256 rfl rfl ?_
              refine og_iload X469 260 at_258 rfl rfl ?_
              refine og_icmpN X469 263 at_260 (XT.ii_ne_f (by decide)) rfl ?_
              refine og_iconst X469 264 (1 : Int32) at_263 rfl rfl ?_
              refine og_goto X469 268 at_264 (by decide) (by decide) ?_
              refine own_retZ X469 at_268 hret rfl (by decide) (by decide) ?_
              exact rfl
            · -- not
              refine og_icmpY X411 194 at_182 (XT.ii_ne_t hc465) (by decide) (by decide) ?_
              refine og_iload X411 196 at_194 rfl rfl ?_
              refine og_iconst X411 197 (2 : Int32) at_196 rfl rfl ?_
              by_cases hc470 : ((XT.ushr pm (2 : Int32)) &&& (3 : Int32)) = (2 : Int32)
              · -- ((XT.ushr pm (2 : Int32)) &&& (3 : Int32)) = (2 : Int32)
                refine og_icmpN X411 200 at_197 (XT.ii_ne_f hc470) rfl ?_
                refine og_aload X411 202 at_200 rfl rfl rfl ?_
                refine og_astore X411 204 #[.val (.int k1), .val (.int u1), .val (.int k2), .val (.int u2), .val (.int pm), .val (.int (0 : Int32)), .val (.int (0 : Int32)), .val (.int ((XT.ushr pm (2 : Int32)) &&& (3 : Int32))), .val (.ref r3), .val (.ref r5), .val (.ref r7), .val (.ref r9), .val (.int (1 : Int32)), .val (.int (1 : Int32)), .val (.ref b380), .val (.ref b397), .val (.ref r7), .unset, .unset] at_202 rfl rfl rfl ?_
                refine og_iconst X411 205 (0 : Int32) at_204 rfl rfl ?_
                refine og_istore X411 207 #[.val (.int k1), .val (.int u1), .val (.int k2), .val (.int u2), .val (.int pm), .val (.int (0 : Int32)), .val (.int (0 : Int32)), .val (.int ((XT.ushr pm (2 : Int32)) &&& (3 : Int32))), .val (.ref r3), .val (.ref r5), .val (.ref r7), .val (.ref r9), .val (.int (1 : Int32)), .val (.int (1 : Int32)), .val (.ref b380), .val (.ref b397), .val (.ref r7), .val (.int (0 : Int32)), .unset] at_205 rfl rfl ?_
                refine og_goto X411 217 at_207 (by decide) (by decide) ?_
                refine og_aload X411 219 at_217 rfl rfl rfl ?_
                refine og_aload X411 221 at_219 rfl rfl rfl ?_
                have f471 := E380.keep K394
                have f472 := f471.keep K397
                have f473 := f472.keep K411
                have f474 := f405.keep K411
                refine own_virt X411 224 (a := b380) (argsL := [(.ref r7)]) (rest := []) at_221 f473 (fun _ hZ => notFace_of_selects (args := #[]) (mvT hZ (hw _ (List.mem_of_getElem? (i := 73) rfl)))) (rm_eqS l Z a0 hw n0 h411 hWd [] X411.old b380 r7 f474 ) (hw _ (List.mem_of_getElem? (i := 70) rfl)) (hw _ (List.mem_of_getElem? (i := 71) rfl)) (hw _ (List.mem_of_getElem? (i := 73) rfl)) (hw _ (List.mem_of_getElem? (i := 72) rfl)) (hw _ (List.mem_of_getElem? (i := 56) rfl)) (hw _ (List.mem_of_getElem? (i := 74) rfl)) (by decide) (lenOf pd__28Ljava_2flang_2fObject_3b_29Z rfl) rfl rfl rfl (W := 0) rfl (by decide) (by decide) (by decide) (by decide) all0 rfl ?_
                intro T475 h475 v475 X475 K475 hQ475
                obtain rfl := hQ475
                show OGo _ _ _ _ T475 (mkF m 224 #[.val (.int k1), .val (.int u1), .val (.int k2), .val (.int u2), .val (.int pm), .val (.int (0 : Int32)), .val (.int (0 : Int32)), .val (.int ((XT.ushr pm (2 : Int32)) &&& (3 : Int32))), .val (.ref r3), .val (.ref r5), .val (.ref r7), .val (.ref r9), .val (.int (1 : Int32)), .val (.int (1 : Int32)), .val (.ref b380), .val (.ref b397), .val (.ref r7), .val (.int (0 : Int32)), .unset] [(.int (0 : Int32))])
                refine og_istore X475 226 #[.val (.int k1), .val (.int u1), .val (.int k2), .val (.int u2), .val (.int pm), .val (.int (0 : Int32)), .val (.int (0 : Int32)), .val (.int ((XT.ushr pm (2 : Int32)) &&& (3 : Int32))), .val (.ref r3), .val (.ref r5), .val (.ref r7), .val (.ref r9), .val (.int (1 : Int32)), .val (.int (1 : Int32)), .val (.ref b380), .val (.ref b397), .val (.ref r7), .val (.int (0 : Int32)), .val (.int (0 : Int32))] at_224 rfl rfl ?_
                refine og_iload X475 228 at_226 rfl rfl ?_
                refine og_ifY X475 256 at_228 (XT.i0_ne_t hc414) (by decide) (by decide) ?_
                refine og_iload X475 258 at_256 rfl rfl ?_
                refine og_iload X475 260 at_258 rfl rfl ?_
                refine og_icmpN X475 263 at_260 (XT.ii_ne_f (by decide)) rfl ?_
                refine og_iconst X475 264 (1 : Int32) at_263 rfl rfl ?_
                refine og_goto X475 268 at_264 (by decide) (by decide) ?_
                refine own_retZ X475 at_268 hret rfl (by decide) (by decide) ?_
                exact rfl
              · -- not
                refine og_icmpY X411 210 at_197 (XT.ii_ne_t hc470) (by decide) (by decide) ?_
                refine og_aload X411 212 at_210 rfl rfl rfl ?_
                refine og_astore X411 214 #[.val (.int k1), .val (.int u1), .val (.int k2), .val (.int u2), .val (.int pm), .val (.int (0 : Int32)), .val (.int (0 : Int32)), .val (.int ((XT.ushr pm (2 : Int32)) &&& (3 : Int32))), .val (.ref r3), .val (.ref r5), .val (.ref r7), .val (.ref r9), .val (.int (1 : Int32)), .val (.int (1 : Int32)), .val (.ref b380), .val (.ref b397), .val (.ref b380), .unset, .unset] at_212 rfl rfl rfl ?_
                refine og_iconst X411 215 (1 : Int32) at_214 rfl rfl ?_
                refine og_istore X411 217 #[.val (.int k1), .val (.int u1), .val (.int k2), .val (.int u2), .val (.int pm), .val (.int (0 : Int32)), .val (.int (0 : Int32)), .val (.int ((XT.ushr pm (2 : Int32)) &&& (3 : Int32))), .val (.ref r3), .val (.ref r5), .val (.ref r7), .val (.ref r9), .val (.int (1 : Int32)), .val (.int (1 : Int32)), .val (.ref b380), .val (.ref b397), .val (.ref b380), .val (.int (1 : Int32)), .unset] at_215 rfl rfl ?_
                refine og_aload X411 219 at_217 rfl rfl rfl ?_
                refine og_aload X411 221 at_219 rfl rfl rfl ?_
                have f476 := E380.keep K394
                have f477 := f476.keep K397
                have f478 := f477.keep K411
                have f479 := f395.keep K397 nin0
                have f480 := f479.keep K411 (ninS (Nat.ne_of_lt (Nat.lt_of_lt_of_le (Nat.lt_of_lt_of_le U380 K394.1) G397)) nin0)
                have f481 := f396.keep K397 nin0
                have f482 := f481.keep K411 (ninS (Nat.ne_of_lt (Nat.lt_of_lt_of_le (Nat.lt_of_lt_of_le U380 K394.1) G397)) nin0)
                have f483 := f4.keep K5 all0
                have f484 := f483.keep K7 all0
                have f485 := f484.keep K9 all0
                have f486 := f485.keep K11 all0
                have f487 := f486.keep K257 all0
                have f488 := f487.keep K380 all0
                have f489 := f488.keep K394 (allS (Or.inl (Nat.le_trans (Nat.le_trans (Nat.le_trans (Nat.le_trans (Nat.le_trans K5.1 K7.1) K9.1) K11.1) K257.1) G380)) all0)
                have f490 := f489.keep K397 all0
                have f491 := f490.keep K411 (allS (Or.inl (Nat.le_trans (Nat.le_trans (Nat.le_trans (Nat.le_trans (Nat.le_trans (Nat.le_trans (Nat.le_trans K5.1 K7.1) K9.1) K11.1) K257.1) K380.1) K394.1) G397)) all0)
                have f492 := f6.keep K7 all0
                have f493 := f492.keep K9 all0
                have f494 := f493.keep K11 all0
                have f495 := f494.keep K257 all0
                have f496 := f495.keep K380 all0
                have f497 := f496.keep K394 (allS (Or.inl (Nat.le_trans (Nat.le_trans (Nat.le_trans (Nat.le_trans K7.1 K9.1) K11.1) K257.1) G380)) all0)
                have f498 := f497.keep K397 all0
                have f499 := f498.keep K411 (allS (Or.inl (Nat.le_trans (Nat.le_trans (Nat.le_trans (Nat.le_trans (Nat.le_trans (Nat.le_trans K7.1 K9.1) K11.1) K257.1) K380.1) K394.1) G397)) all0)
                refine own_virt X411 224 (a := b380) (argsL := [(.ref b380)]) (rest := []) at_221 f478 (fun _ hZ => notFace_of_selects (args := #[]) (mvT hZ (hw _ (List.mem_of_getElem? (i := 73) rfl)))) (rm_eqK l Z a0 hw n0 h411 hWd [] X411.old b380 b380 r3 r5 r3 r5 (own_mk k1) (own_mk u1) (own_mk k1) (own_mk u1) f478 f480 f482 f480 f482 f491.top f499.top f491.top f499.top ) (hw _ (List.mem_of_getElem? (i := 70) rfl)) (hw _ (List.mem_of_getElem? (i := 71) rfl)) (hw _ (List.mem_of_getElem? (i := 73) rfl)) (hw _ (List.mem_of_getElem? (i := 72) rfl)) (hw _ (List.mem_of_getElem? (i := 56) rfl)) (hw _ (List.mem_of_getElem? (i := 74) rfl)) (by decide) (lenOf pd__28Ljava_2flang_2fObject_3b_29Z rfl) rfl rfl rfl (W := 0) rfl (by decide) (by decide) (by decide) (by decide) all0 rfl ?_
                intro T500 h500 v500 X500 K500 hQ500
                obtain rfl := hQ500
                show OGo _ _ _ _ T500 (mkF m 224 #[.val (.int k1), .val (.int u1), .val (.int k2), .val (.int u2), .val (.int pm), .val (.int (0 : Int32)), .val (.int (0 : Int32)), .val (.int ((XT.ushr pm (2 : Int32)) &&& (3 : Int32))), .val (.ref r3), .val (.ref r5), .val (.ref r7), .val (.ref r9), .val (.int (1 : Int32)), .val (.int (1 : Int32)), .val (.ref b380), .val (.ref b397), .val (.ref b380), .val (.int (1 : Int32)), .unset] [(.int (own_eq2 (own_mk k1) (own_mk u1) (own_mk k1) (own_mk u1)))])
                refine og_istore X500 226 #[.val (.int k1), .val (.int u1), .val (.int k2), .val (.int u2), .val (.int pm), .val (.int (0 : Int32)), .val (.int (0 : Int32)), .val (.int ((XT.ushr pm (2 : Int32)) &&& (3 : Int32))), .val (.ref r3), .val (.ref r5), .val (.ref r7), .val (.ref r9), .val (.int (1 : Int32)), .val (.int (1 : Int32)), .val (.ref b380), .val (.ref b397), .val (.ref b380), .val (.int (1 : Int32)), .val (.int (own_eq2 (own_mk k1) (own_mk u1) (own_mk k1) (own_mk u1)))] at_224 rfl rfl ?_
                refine og_iload X500 228 at_226 rfl rfl ?_
                refine og_ifY X500 256 at_228 (XT.i0_ne_t hc414) (by decide) (by decide) ?_
                refine og_iload X500 258 at_256 rfl rfl ?_
                refine og_iload X500 260 at_258 rfl rfl ?_
                refine og_icmpN X500 263 at_260 (XT.ii_ne_f (own_eq2_1 rfl rfl)) rfl ?_
                refine og_iconst X500 264 (1 : Int32) at_263 rfl rfl ?_
                refine og_goto X500 268 at_264 (by decide) (by decide) ?_
                refine own_retZ X500 at_268 hret rfl (by decide) (by decide) ?_
                exact rfl
    · -- not
      refine og_ifN X0 21 at_18 (XT.i0_eq_f hc2) rfl ?_
      refine og_iconst X0 22 (1 : Int32) at_21 rfl rfl ?_
      refine og_goto X0 26 at_22 (by decide) (by decide) ?_
      refine og_istore X0 28 #[.val (.int k1), .val (.int u1), .val (.int k2), .val (.int u2), .val (.int pm), .val (.int (0 : Int32)), .val (.int (1 : Int32)), .unset, .unset, .unset, .unset, .unset, .unset, .unset, .unset, .unset, .unset, .unset, .unset] at_26 rfl rfl ?_
      refine og_iload X0 30 at_28 rfl rfl ?_
      refine og_iconst X0 31 (2 : Int32) at_30 rfl rfl ?_
      refine og_iushr X0 32 at_31 rfl ?_
      refine og_iconst X0 33 (3 : Int32) at_32 rfl rfl ?_
      refine og_iand X0 34 at_33 rfl ?_
      refine og_istore X0 36 #[.val (.int k1), .val (.int u1), .val (.int k2), .val (.int u2), .val (.int pm), .val (.int (0 : Int32)), .val (.int (1 : Int32)), .val (.int ((XT.ushr pm (2 : Int32)) &&& (3 : Int32))), .unset, .unset, .unset, .unset, .unset, .unset, .unset, .unset, .unset, .unset, .unset] at_34 rfl rfl ?_
      refine og_iloadN X0 37 at_36 rfl rfl ?_
      refine own_stat X0 40 (argsL := [(.int k1)]) (rest := []) at_37 (rm1 l Z a0 hw n0 h0 hWd [] X0.old k1  ) (hw _ (List.mem_of_getElem? (i := 0) rfl)) (hw _ (List.mem_of_getElem? (i := 1) rfl)) (hw _ (List.mem_of_getElem? (i := 2) rfl)) (hw _ (List.mem_of_getElem? (i := 3) rfl)) (by decide) (lenOf pd__28I_29Ljava_2flang_2fString_3b rfl) rfl rfl rfl (W := 0) rfl (by decide) (by decide) (by decide) (by decide) all0 rfl ?_
      intro T501 h501 v501 X501 K501 hQ501
      obtain ⟨r501, rfl, ge_r501, f502⟩ := hQ501
      show OGo _ _ _ _ T501 (mkF m 40 #[.val (.int k1), .val (.int u1), .val (.int k2), .val (.int u2), .val (.int pm), .val (.int (0 : Int32)), .val (.int (1 : Int32)), .val (.int ((XT.ushr pm (2 : Int32)) &&& (3 : Int32))), .unset, .unset, .unset, .unset, .unset, .unset, .unset, .unset, .unset, .unset, .unset] [(.ref r501)])
      refine og_astore X501 42 #[.val (.int k1), .val (.int u1), .val (.int k2), .val (.int u2), .val (.int pm), .val (.int (0 : Int32)), .val (.int (1 : Int32)), .val (.int ((XT.ushr pm (2 : Int32)) &&& (3 : Int32))), .val (.ref r501), .unset, .unset, .unset, .unset, .unset, .unset, .unset, .unset, .unset, .unset] at_40 rfl rfl rfl ?_
      refine og_iloadN X501 43 at_42 rfl rfl ?_
      refine own_stat X501 46 (argsL := [(.int u1)]) (rest := []) at_43 (rm1 l Z a0 hw n0 h501 hWd [] X501.old u1  ) (hw _ (List.mem_of_getElem? (i := 0) rfl)) (hw _ (List.mem_of_getElem? (i := 1) rfl)) (hw _ (List.mem_of_getElem? (i := 2) rfl)) (hw _ (List.mem_of_getElem? (i := 3) rfl)) (by decide) (lenOf pd__28I_29Ljava_2flang_2fString_3b rfl) rfl rfl rfl (W := 0) rfl (by decide) (by decide) (by decide) (by decide) all0 rfl ?_
      intro T503 h503 v503 X503 K503 hQ503
      obtain ⟨r503, rfl, ge_r503, f504⟩ := hQ503
      show OGo _ _ _ _ T503 (mkF m 46 #[.val (.int k1), .val (.int u1), .val (.int k2), .val (.int u2), .val (.int pm), .val (.int (0 : Int32)), .val (.int (1 : Int32)), .val (.int ((XT.ushr pm (2 : Int32)) &&& (3 : Int32))), .val (.ref r501), .unset, .unset, .unset, .unset, .unset, .unset, .unset, .unset, .unset, .unset] [(.ref r503)])
      refine og_astore X503 48 #[.val (.int k1), .val (.int u1), .val (.int k2), .val (.int u2), .val (.int pm), .val (.int (0 : Int32)), .val (.int (1 : Int32)), .val (.int ((XT.ushr pm (2 : Int32)) &&& (3 : Int32))), .val (.ref r501), .val (.ref r503), .unset, .unset, .unset, .unset, .unset, .unset, .unset, .unset, .unset] at_46 rfl rfl rfl ?_
      refine og_iload X503 50 at_48 rfl rfl ?_
      refine og_ifY X503 60 at_50 (XT.i0_eq_t (by decide)) (by decide) (by decide) ?_
      refine og_iloadN X503 61 at_60 rfl rfl ?_
      refine own_stat X503 64 (argsL := [(.int k2)]) (rest := []) at_61 (rm1 l Z a0 hw n0 h503 hWd [] X503.old k2  ) (hw _ (List.mem_of_getElem? (i := 0) rfl)) (hw _ (List.mem_of_getElem? (i := 1) rfl)) (hw _ (List.mem_of_getElem? (i := 2) rfl)) (hw _ (List.mem_of_getElem? (i := 3) rfl)) (by decide) (lenOf pd__28I_29Ljava_2flang_2fString_3b rfl) rfl rfl rfl (W := 0) rfl (by decide) (by decide) (by decide) (by decide) all0 rfl ?_
      intro T505 h505 v505 X505 K505 hQ505
      obtain ⟨r505, rfl, ge_r505, f506⟩ := hQ505
      show OGo _ _ _ _ T505 (mkF m 64 #[.val (.int k1), .val (.int u1), .val (.int k2), .val (.int u2), .val (.int pm), .val (.int (0 : Int32)), .val (.int (1 : Int32)), .val (.int ((XT.ushr pm (2 : Int32)) &&& (3 : Int32))), .val (.ref r501), .val (.ref r503), .unset, .unset, .unset, .unset, .unset, .unset, .unset, .unset, .unset] [(.ref r505)])
      refine og_astore X505 66 #[.val (.int k1), .val (.int u1), .val (.int k2), .val (.int u2), .val (.int pm), .val (.int (0 : Int32)), .val (.int (1 : Int32)), .val (.int ((XT.ushr pm (2 : Int32)) &&& (3 : Int32))), .val (.ref r501), .val (.ref r503), .val (.ref r505), .unset, .unset, .unset, .unset, .unset, .unset, .unset, .unset] at_64 rfl rfl rfl ?_
      refine og_iload X505 68 at_66 rfl rfl ?_
      refine og_ifN X505 71 at_68 (XT.i0_eq_f (by decide)) rfl ?_
      refine og_iloadN X505 72 at_71 rfl rfl ?_
      refine own_stat X505 75 (argsL := [(.int u1)]) (rest := []) at_72 (rm1 l Z a0 hw n0 h505 hWd [] X505.old u1  ) (hw _ (List.mem_of_getElem? (i := 0) rfl)) (hw _ (List.mem_of_getElem? (i := 1) rfl)) (hw _ (List.mem_of_getElem? (i := 2) rfl)) (hw _ (List.mem_of_getElem? (i := 3) rfl)) (by decide) (lenOf pd__28I_29Ljava_2flang_2fString_3b rfl) rfl rfl rfl (W := 0) rfl (by decide) (by decide) (by decide) (by decide) all0 rfl ?_
      intro T507 h507 v507 X507 K507 hQ507
      obtain ⟨r507, rfl, ge_r507, f508⟩ := hQ507
      show OGo _ _ _ _ T507 (mkF m 75 #[.val (.int k1), .val (.int u1), .val (.int k2), .val (.int u2), .val (.int pm), .val (.int (0 : Int32)), .val (.int (1 : Int32)), .val (.int ((XT.ushr pm (2 : Int32)) &&& (3 : Int32))), .val (.ref r501), .val (.ref r503), .val (.ref r505), .unset, .unset, .unset, .unset, .unset, .unset, .unset, .unset] [(.ref r507)])
      refine og_goto X507 82 at_75 (by decide) (by decide) ?_
      refine og_astore X507 84 #[.val (.int k1), .val (.int u1), .val (.int k2), .val (.int u2), .val (.int pm), .val (.int (0 : Int32)), .val (.int (1 : Int32)), .val (.int ((XT.ushr pm (2 : Int32)) &&& (3 : Int32))), .val (.ref r501), .val (.ref r503), .val (.ref r505), .val (.ref r507), .unset, .unset, .unset, .unset, .unset, .unset, .unset] at_82 rfl rfl rfl ?_
      refine og_iload X507 86 at_84 rfl rfl ?_
      refine og_ifN X507 89 at_86 (XT.i0_ne_f (by decide)) rfl ?_
      refine og_iloadN X507 90 at_89 rfl rfl ?_
      refine og_iloadN X507 91 at_90 rfl rfl ?_
      refine own_stat X507 94 (argsL := [(.int k1), (.int k2)]) (rest := []) at_91 (rm12 l Z a0 hw n0 h507 hWd [] X507.old k1 k2  ) (hw _ (List.mem_of_getElem? (i := 51) rfl)) (hw _ (List.mem_of_getElem? (i := 52) rfl)) (hw _ (List.mem_of_getElem? (i := 2) rfl)) (hw _ (List.mem_of_getElem? (i := 53) rfl)) (by decide) (lenOf pd__28II_29Z rfl) rfl rfl rfl (W := 0) rfl (by decide) (by decide) (by decide) (by decide) all0 rfl ?_
      intro T509 h509 v509 X509 K509 hQ509
      obtain rfl := hQ509
      show OGo _ _ _ _ T509 (mkF m 94 #[.val (.int k1), .val (.int u1), .val (.int k2), .val (.int u2), .val (.int pm), .val (.int (0 : Int32)), .val (.int (1 : Int32)), .val (.int ((XT.ushr pm (2 : Int32)) &&& (3 : Int32))), .val (.ref r501), .val (.ref r503), .val (.ref r505), .val (.ref r507), .unset, .unset, .unset, .unset, .unset, .unset, .unset] [(.int (own_eqb (own_mk k1) (own_mk k2)))])
      by_cases hc510 : (own_eqb (own_mk k1) (own_mk k2)) = 0
      · -- (own_eqb (own_mk k1) (own_mk k2)) = 0
        refine og_ifY X509 101 at_94 (XT.i0_eq_t hc510) (by decide) (by decide) ?_
        refine og_iconst X509 102 (0 : Int32) at_101 rfl rfl ?_
        refine og_istore X509 104 #[.val (.int k1), .val (.int u1), .val (.int k2), .val (.int u2), .val (.int pm), .val (.int (0 : Int32)), .val (.int (1 : Int32)), .val (.int ((XT.ushr pm (2 : Int32)) &&& (3 : Int32))), .val (.ref r501), .val (.ref r503), .val (.ref r505), .val (.ref r507), .val (.int (0 : Int32)), .unset, .unset, .unset, .unset, .unset, .unset] at_102 rfl rfl ?_
        refine og_iload X509 106 at_104 rfl rfl ?_
        refine og_ifY X509 117 at_106 (XT.i0_ne_t (by decide)) (by decide) (by decide) ?_
        refine og_iconst X509 118 (1 : Int32) at_117 rfl rfl ?_
        refine og_goto X509 122 at_118 (by decide) (by decide) ?_
        refine og_istore X509 124 #[.val (.int k1), .val (.int u1), .val (.int k2), .val (.int u2), .val (.int pm), .val (.int (0 : Int32)), .val (.int (1 : Int32)), .val (.int ((XT.ushr pm (2 : Int32)) &&& (3 : Int32))), .val (.ref r501), .val (.ref r503), .val (.ref r505), .val (.ref r507), .val (.int (0 : Int32)), .val (.int (1 : Int32)), .unset, .unset, .unset, .unset, .unset] at_122 rfl rfl ?_
        refine own_new X509 127 at_124 (hw _ (List.mem_of_getElem? (i := 54) rfl)) (hw _ (List.mem_of_getElem? (i := 55) rfl)) (hw _ (List.mem_of_getElem? (i := 56) rfl)) (by decide) (by decide) rfl ?_
        intro T511 h511 b511 X511 K511 G511 U511 E511 D511
        have f512 : Fld Z h511 b511 "com/example/chitragupta/chitragupta/model/HelpdeskSite" "kind" "Ljava/lang/String;" .null := D511 (Or.inr (hw _ (List.mem_of_getElem? (i := 67) rfl))) (ty := (.object "java/lang/String")) (by decide)
        have f513 : Fld Z h511 b511 "com/example/chitragupta/chitragupta/model/HelpdeskSite" "url" "Ljava/lang/String;" .null := D511 (Or.inr (hw _ (List.mem_of_getElem? (i := 69) rfl))) (ty := (.object "java/lang/String")) (by decide)
        refine og_dup X511 128 at_127 rfl rfl ?_
        refine og_aload X511 130 at_128 rfl rfl rfl ?_
        refine og_aload X511 132 at_130 rfl rfl rfl ?_
        have f514 := f502.exa.keep K503
        have f515 := f514.keep K505
        have f516 := f515.keep K507
        have f517 := f516.keep K509
        have f518 := f517.keep K511
        have f519 := f504.exa.keep K505
        have f520 := f519.keep K507
        have f521 := f520.keep K509
        have f522 := f521.keep K511
        refine own_spec X511 135 (a := b511) (argsL := [(.ref r501), (.ref r503)]) (rest := [(.ref b511)]) at_132 rfl (rm13 l Z a0 hw n0 h511 hWd [] X511.old b511 r501 r503 E511 f512 f513 f518 f522 (own_svb X511 (List.mem_of_getElem? (i := 0) rfl))) (hw _ (List.mem_of_getElem? (i := 57) rfl)) (hw _ (List.mem_of_getElem? (i := 58) rfl)) (hw _ (List.mem_of_getElem? (i := 56) rfl)) (hw _ (List.mem_of_getElem? (i := 59) rfl)) (by decide) (lenOf pd__28Ljava_2flang_2fString_3bLjava_2flang_2fString_3b_29V rfl) rfl rfl rfl (W := 1) rfl (by decide) (by decide) (by decide) (by decide) (allS (List.mem_of_getElem? (i := 0) rfl) all0) rfl ?_
        intro T523 h523 v523 X523 K523 hQ523
        obtain ⟨rfl, f524, f525⟩ := hQ523
        show OGo _ _ _ _ T523 (mkF m 135 #[.val (.int k1), .val (.int u1), .val (.int k2), .val (.int u2), .val (.int pm), .val (.int (0 : Int32)), .val (.int (1 : Int32)), .val (.int ((XT.ushr pm (2 : Int32)) &&& (3 : Int32))), .val (.ref r501), .val (.ref r503), .val (.ref r505), .val (.ref r507), .val (.int (0 : Int32)), .val (.int (1 : Int32)), .unset, .unset, .unset, .unset, .unset] [(.ref b511)])
        refine og_astore X523 137 #[.val (.int k1), .val (.int u1), .val (.int k2), .val (.int u2), .val (.int pm), .val (.int (0 : Int32)), .val (.int (1 : Int32)), .val (.int ((XT.ushr pm (2 : Int32)) &&& (3 : Int32))), .val (.ref r501), .val (.ref r503), .val (.ref r505), .val (.ref r507), .val (.int (0 : Int32)), .val (.int (1 : Int32)), .val (.ref b511), .unset, .unset, .unset, .unset] at_135 rfl rfl rfl ?_
        refine own_new X523 140 at_137 (hw _ (List.mem_of_getElem? (i := 54) rfl)) (hw _ (List.mem_of_getElem? (i := 55) rfl)) (hw _ (List.mem_of_getElem? (i := 56) rfl)) (by decide) (by decide) rfl ?_
        intro T526 h526 b526 X526 K526 G526 U526 E526 D526
        have f527 : Fld Z h526 b526 "com/example/chitragupta/chitragupta/model/HelpdeskSite" "kind" "Ljava/lang/String;" .null := D526 (Or.inr (hw _ (List.mem_of_getElem? (i := 67) rfl))) (ty := (.object "java/lang/String")) (by decide)
        have f528 : Fld Z h526 b526 "com/example/chitragupta/chitragupta/model/HelpdeskSite" "url" "Ljava/lang/String;" .null := D526 (Or.inr (hw _ (List.mem_of_getElem? (i := 69) rfl))) (ty := (.object "java/lang/String")) (by decide)
        refine og_dup X526 141 at_140 rfl rfl ?_
        refine og_aload X526 143 at_141 rfl rfl rfl ?_
        refine og_aload X526 145 at_143 rfl rfl rfl ?_
        have f529 := f506.exa.keep K507
        have f530 := f529.keep K509
        have f531 := f530.keep K511
        have f532 := f531.keep K523
        have f533 := f532.keep K526
        have f534 := f508.exa.keep K509
        have f535 := f534.keep K511
        have f536 := f535.keep K523
        have f537 := f536.keep K526
        refine own_spec X526 148 (a := b526) (argsL := [(.ref r505), (.ref r507)]) (rest := [(.ref b526)]) at_145 rfl (rm13 l Z a0 hw n0 h526 hWd [] X526.old b526 r505 r507 E526 f527 f528 f533 f537 (own_svb X526 (List.mem_of_getElem? (i := 0) rfl))) (hw _ (List.mem_of_getElem? (i := 57) rfl)) (hw _ (List.mem_of_getElem? (i := 58) rfl)) (hw _ (List.mem_of_getElem? (i := 56) rfl)) (hw _ (List.mem_of_getElem? (i := 59) rfl)) (by decide) (lenOf pd__28Ljava_2flang_2fString_3bLjava_2flang_2fString_3b_29V rfl) rfl rfl rfl (W := 1) rfl (by decide) (by decide) (by decide) (by decide) (allS (List.mem_of_getElem? (i := 0) rfl) all0) rfl ?_
        intro T538 h538 v538 X538 K538 hQ538
        obtain ⟨rfl, f539, f540⟩ := hQ538
        show OGo _ _ _ _ T538 (mkF m 148 #[.val (.int k1), .val (.int u1), .val (.int k2), .val (.int u2), .val (.int pm), .val (.int (0 : Int32)), .val (.int (1 : Int32)), .val (.int ((XT.ushr pm (2 : Int32)) &&& (3 : Int32))), .val (.ref r501), .val (.ref r503), .val (.ref r505), .val (.ref r507), .val (.int (0 : Int32)), .val (.int (1 : Int32)), .val (.ref b511), .unset, .unset, .unset, .unset] [(.ref b526)])
        refine og_astore X538 150 #[.val (.int k1), .val (.int u1), .val (.int k2), .val (.int u2), .val (.int pm), .val (.int (0 : Int32)), .val (.int (1 : Int32)), .val (.int ((XT.ushr pm (2 : Int32)) &&& (3 : Int32))), .val (.ref r501), .val (.ref r503), .val (.ref r505), .val (.ref r507), .val (.int (0 : Int32)), .val (.int (1 : Int32)), .val (.ref b511), .val (.ref b526), .unset, .unset, .unset] at_148 rfl rfl rfl ?_
        refine og_iload X538 152 at_150 rfl rfl ?_
        by_cases hc541 : ((XT.ushr pm (2 : Int32)) &&& (3 : Int32)) = 0
        · -- ((XT.ushr pm (2 : Int32)) &&& (3 : Int32)) = 0
          refine og_ifN X538 155 at_152 (XT.i0_ne_f hc541) rfl ?_
          refine og_aload X538 157 at_155 rfl rfl rfl ?_
          refine og_astore X538 159 #[.val (.int k1), .val (.int u1), .val (.int k2), .val (.int u2), .val (.int pm), .val (.int (0 : Int32)), .val (.int (1 : Int32)), .val (.int ((XT.ushr pm (2 : Int32)) &&& (3 : Int32))), .val (.ref r501), .val (.ref r503), .val (.ref r505), .val (.ref r507), .val (.int (0 : Int32)), .val (.int (1 : Int32)), .val (.ref b511), .val (.ref b526), .val (.ref b526), .unset, .unset] at_157 rfl rfl rfl ?_
          refine og_iload X538 161 at_159 rfl rfl ?_
          refine og_ifY X538 173 at_161 (XT.i0_eq_t (by decide)) (by decide) (by decide) ?_
          refine og_iconst X538 174 (0 : Int32) at_173 rfl rfl ?_
          refine og_istore X538 176 #[.val (.int k1), .val (.int u1), .val (.int k2), .val (.int u2), .val (.int pm), .val (.int (0 : Int32)), .val (.int (1 : Int32)), .val (.int ((XT.ushr pm (2 : Int32)) &&& (3 : Int32))), .val (.ref r501), .val (.ref r503), .val (.ref r505), .val (.ref r507), .val (.int (0 : Int32)), .val (.int (1 : Int32)), .val (.ref b511), .val (.ref b526), .val (.ref b526), .val (.int (0 : Int32)), .unset] at_174 rfl rfl ?_
          refine og_goto X538 217 at_176 (by decide) (by decide) ?_
          refine og_aload X538 219 at_217 rfl rfl rfl ?_
          refine og_aload X538 221 at_219 rfl rfl rfl ?_
          have f542 := E511.keep K523
          have f543 := f542.keep K526
          have f544 := f543.keep K538
          have f545 := E526.keep K538
          have f546 := f524.keep K526 nin0
          have f547 := f546.keep K538 (ninS (Nat.ne_of_lt (Nat.lt_of_lt_of_le (Nat.lt_of_lt_of_le U511 K523.1) G526)) nin0)
          have f548 := f525.keep K526 nin0
          have f549 := f548.keep K538 (ninS (Nat.ne_of_lt (Nat.lt_of_lt_of_le (Nat.lt_of_lt_of_le U511 K523.1) G526)) nin0)
          have f550 := f502.keep K503 all0
          have f551 := f550.keep K505 all0
          have f552 := f551.keep K507 all0
          have f553 := f552.keep K509 all0
          have f554 := f553.keep K511 all0
          have f555 := f554.keep K523 (allS (Or.inl (Nat.le_trans (Nat.le_trans (Nat.le_trans (Nat.le_trans K503.1 K505.1) K507.1) K509.1) G511)) all0)
          have f556 := f555.keep K526 all0
          have f557 := f556.keep K538 (allS (Or.inl (Nat.le_trans (Nat.le_trans (Nat.le_trans (Nat.le_trans (Nat.le_trans (Nat.le_trans K503.1 K505.1) K507.1) K509.1) K511.1) K523.1) G526)) all0)
          have f558 := f504.keep K505 all0
          have f559 := f558.keep K507 all0
          have f560 := f559.keep K509 all0
          have f561 := f560.keep K511 all0
          have f562 := f561.keep K523 (allS (Or.inl (Nat.le_trans (Nat.le_trans (Nat.le_trans K505.1 K507.1) K509.1) G511)) all0)
          have f563 := f562.keep K526 all0
          have f564 := f563.keep K538 (allS (Or.inl (Nat.le_trans (Nat.le_trans (Nat.le_trans (Nat.le_trans (Nat.le_trans K505.1 K507.1) K509.1) K511.1) K523.1) G526)) all0)
          have f565 := f506.keep K507 all0
          have f566 := f565.keep K509 all0
          have f567 := f566.keep K511 all0
          have f568 := f567.keep K523 (allS (Or.inl (Nat.le_trans (Nat.le_trans K507.1 K509.1) G511)) all0)
          have f569 := f568.keep K526 all0
          have f570 := f569.keep K538 (allS (Or.inl (Nat.le_trans (Nat.le_trans (Nat.le_trans (Nat.le_trans K507.1 K509.1) K511.1) K523.1) G526)) all0)
          have f571 := f508.keep K509 all0
          have f572 := f571.keep K511 all0
          have f573 := f572.keep K523 (allS (Or.inl (Nat.le_trans K509.1 G511)) all0)
          have f574 := f573.keep K526 all0
          have f575 := f574.keep K538 (allS (Or.inl (Nat.le_trans (Nat.le_trans (Nat.le_trans K509.1 K511.1) K523.1) G526)) all0)
          refine own_virt X538 224 (a := b511) (argsL := [(.ref b526)]) (rest := []) at_221 f544 (fun _ hZ => notFace_of_selects (args := #[]) (mvT hZ (hw _ (List.mem_of_getElem? (i := 73) rfl)))) (rm_eqK l Z a0 hw n0 h538 hWd [] X538.old b511 b526 r501 r503 r505 r507 (own_mk k1) (own_mk u1) (own_mk k2) (own_mk u1) f545 f547 f549 f539 f540 f557.top f564.top f570.top f575.top ) (hw _ (List.mem_of_getElem? (i := 70) rfl)) (hw _ (List.mem_of_getElem? (i := 71) rfl)) (hw _ (List.mem_of_getElem? (i := 73) rfl)) (hw _ (List.mem_of_getElem? (i := 72) rfl)) (hw _ (List.mem_of_getElem? (i := 56) rfl)) (hw _ (List.mem_of_getElem? (i := 74) rfl)) (by decide) (lenOf pd__28Ljava_2flang_2fObject_3b_29Z rfl) rfl rfl rfl (W := 0) rfl (by decide) (by decide) (by decide) (by decide) all0 rfl ?_
          intro T576 h576 v576 X576 K576 hQ576
          obtain rfl := hQ576
          show OGo _ _ _ _ T576 (mkF m 224 #[.val (.int k1), .val (.int u1), .val (.int k2), .val (.int u2), .val (.int pm), .val (.int (0 : Int32)), .val (.int (1 : Int32)), .val (.int ((XT.ushr pm (2 : Int32)) &&& (3 : Int32))), .val (.ref r501), .val (.ref r503), .val (.ref r505), .val (.ref r507), .val (.int (0 : Int32)), .val (.int (1 : Int32)), .val (.ref b511), .val (.ref b526), .val (.ref b526), .val (.int (0 : Int32)), .unset] [(.int (own_eq2 (own_mk k1) (own_mk u1) (own_mk k2) (own_mk u1)))])
          refine og_istore X576 226 #[.val (.int k1), .val (.int u1), .val (.int k2), .val (.int u2), .val (.int pm), .val (.int (0 : Int32)), .val (.int (1 : Int32)), .val (.int ((XT.ushr pm (2 : Int32)) &&& (3 : Int32))), .val (.ref r501), .val (.ref r503), .val (.ref r505), .val (.ref r507), .val (.int (0 : Int32)), .val (.int (1 : Int32)), .val (.ref b511), .val (.ref b526), .val (.ref b526), .val (.int (0 : Int32)), .val (.int (own_eq2 (own_mk k1) (own_mk u1) (own_mk k2) (own_mk u1)))] at_224 rfl rfl ?_
          refine og_iload X576 228 at_226 rfl rfl ?_
          refine og_ifN X576 231 at_228 (XT.i0_ne_f hc541) rfl ?_
          refine og_iload X576 233 at_231 rfl rfl ?_
          refine og_iload X576 235 at_233 rfl rfl ?_
          refine og_icmpN X576 238 at_235 (XT.ii_ne_f (own_eq2_0 fun q => (own_eqb0.mp hc510) q.1)) rfl ?_
          refine og_aload X576 240 at_238 rfl rfl rfl ?_
          refine og_aload X576 242 at_240 rfl rfl rfl ?_
          have f577 := f545.keep K576
          have f578 := f544.keep K576
          have f579 := f539.keep K576 nin0
          have f580 := f540.keep K576 nin0
          have f581 := f547.keep K576 nin0
          have f582 := f549.keep K576 nin0
          have f583 := f570.keep K576 all0
          have f584 := f575.keep K576 all0
          have f585 := f557.keep K576 all0
          have f586 := f564.keep K576 all0
          refine own_virt X576 245 (a := b526) (argsL := [(.ref b511)]) (rest := []) at_242 f577 (fun _ hZ => notFace_of_selects (args := #[]) (mvT hZ (hw _ (List.mem_of_getElem? (i := 73) rfl)))) (rm_eqK l Z a0 hw n0 h576 hWd [] X576.old b526 b511 r505 r507 r501 r503 (own_mk k2) (own_mk u1) (own_mk k1) (own_mk u1) f578 f579 f580 f581 f582 f583.top f584.top f585.top f586.top ) (hw _ (List.mem_of_getElem? (i := 70) rfl)) (hw _ (List.mem_of_getElem? (i := 71) rfl)) (hw _ (List.mem_of_getElem? (i := 73) rfl)) (hw _ (List.mem_of_getElem? (i := 72) rfl)) (hw _ (List.mem_of_getElem? (i := 56) rfl)) (hw _ (List.mem_of_getElem? (i := 74) rfl)) (by decide) (lenOf pd__28Ljava_2flang_2fObject_3b_29Z rfl) rfl rfl rfl (W := 0) rfl (by decide) (by decide) (by decide) (by decide) all0 rfl ?_
          intro T587 h587 v587 X587 K587 hQ587
          obtain rfl := hQ587
          show OGo _ _ _ _ T587 (mkF m 245 #[.val (.int k1), .val (.int u1), .val (.int k2), .val (.int u2), .val (.int pm), .val (.int (0 : Int32)), .val (.int (1 : Int32)), .val (.int ((XT.ushr pm (2 : Int32)) &&& (3 : Int32))), .val (.ref r501), .val (.ref r503), .val (.ref r505), .val (.ref r507), .val (.int (0 : Int32)), .val (.int (1 : Int32)), .val (.ref b511), .val (.ref b526), .val (.ref b526), .val (.int (0 : Int32)), .val (.int (own_eq2 (own_mk k1) (own_mk u1) (own_mk k2) (own_mk u1)))] [(.int (own_eq2 (own_mk k2) (own_mk u1) (own_mk k1) (own_mk u1)))])
          refine og_iload X587 247 at_245 rfl rfl ?_
          refine og_icmpN X587 250 at_247 (XT.ii_ne_f (own_eq2_0 fun q => (fun z => own_eqb0.mp hc510 z.symm) q.1)) rfl ?_
          refine og_iconst X587 251 (1 : Int32) at_250 rfl rfl ?_
          refine og_goto X587 255 at_251 (by decide) (by decide) ?_
          refine own_retZ X587 at_255 hret rfl (by decide) (by decide) ?_
          exact rfl
        · -- not
          refine og_ifY X538 179 at_152 (XT.i0_ne_t hc541) (by decide) (by decide) ?_
          refine og_iload X538 181 at_179 rfl rfl ?_
          refine og_iconst X538 182 (1 : Int32) at_181 rfl rfl ?_
          by_cases hc588 : ((XT.ushr pm (2 : Int32)) &&& (3 : Int32)) = (1 : Int32)
          · -- ((XT.ushr pm (2 : Int32)) &&& (3 : Int32)) = (1 : Int32)
            refine og_icmpN X538 185 at_182 (XT.ii_ne_f hc588) rfl ?_
            refine og_aconstNull X538 186 at_185 rfl ?_
            refine og_astore X538 188 #[.val (.int k1), .val (.int u1), .val (.int k2), .val (.int u2), .val (.int pm), .val (.int (0 : Int32)), .val (.int (1 : Int32)), .val (.int ((XT.ushr pm (2 : Int32)) &&& (3 : Int32))), .val (.ref r501), .val (.ref r503), .val (.ref r505), .val (.ref r507), .val (.int (0 : Int32)), .val (.int (1 : Int32)), .val (.ref b511), .val (.ref b526), .val .null, .unset, .unset] at_186 rfl rfl rfl ?_
            refine og_iconst X538 189 (0 : Int32) at_188 rfl rfl ?_
            refine og_istore X538 191 #[.val (.int k1), .val (.int u1), .val (.int k2), .val (.int u2), .val (.int pm), .val (.int (0 : Int32)), .val (.int (1 : Int32)), .val (.int ((XT.ushr pm (2 : Int32)) &&& (3 : Int32))), .val (.ref r501), .val (.ref r503), .val (.ref r505), .val (.ref r507), .val (.int (0 : Int32)), .val (.int (1 : Int32)), .val (.ref b511), .val (.ref b526), .val .null, .val (.int (0 : Int32)), .unset] at_189 rfl rfl ?_
            refine og_goto X538 217 at_191 (by decide) (by decide) ?_
            refine og_aload X538 219 at_217 rfl rfl rfl ?_
            refine og_aload X538 221 at_219 rfl rfl rfl ?_
            have f589 := E511.keep K523
            have f590 := f589.keep K526
            have f591 := f590.keep K538
            refine own_virt X538 224 (a := b511) (argsL := [.null]) (rest := []) at_221 f591 (fun _ hZ => notFace_of_selects (args := #[]) (mvT hZ (hw _ (List.mem_of_getElem? (i := 73) rfl)))) (rm_eqN l Z a0 hw n0 h538 hWd [] X538.old b511  ) (hw _ (List.mem_of_getElem? (i := 70) rfl)) (hw _ (List.mem_of_getElem? (i := 71) rfl)) (hw _ (List.mem_of_getElem? (i := 73) rfl)) (hw _ (List.mem_of_getElem? (i := 72) rfl)) (hw _ (List.mem_of_getElem? (i := 56) rfl)) (hw _ (List.mem_of_getElem? (i := 74) rfl)) (by decide) (lenOf pd__28Ljava_2flang_2fObject_3b_29Z rfl) rfl rfl rfl (W := 0) rfl (by decide) (by decide) (by decide) (by decide) all0 rfl ?_
            intro T592 h592 v592 X592 K592 hQ592
            obtain rfl := hQ592
            show OGo _ _ _ _ T592 (mkF m 224 #[.val (.int k1), .val (.int u1), .val (.int k2), .val (.int u2), .val (.int pm), .val (.int (0 : Int32)), .val (.int (1 : Int32)), .val (.int ((XT.ushr pm (2 : Int32)) &&& (3 : Int32))), .val (.ref r501), .val (.ref r503), .val (.ref r505), .val (.ref r507), .val (.int (0 : Int32)), .val (.int (1 : Int32)), .val (.ref b511), .val (.ref b526), .val .null, .val (.int (0 : Int32)), .unset] [(.int (0 : Int32))])
            refine og_istore X592 226 #[.val (.int k1), .val (.int u1), .val (.int k2), .val (.int u2), .val (.int pm), .val (.int (0 : Int32)), .val (.int (1 : Int32)), .val (.int ((XT.ushr pm (2 : Int32)) &&& (3 : Int32))), .val (.ref r501), .val (.ref r503), .val (.ref r505), .val (.ref r507), .val (.int (0 : Int32)), .val (.int (1 : Int32)), .val (.ref b511), .val (.ref b526), .val .null, .val (.int (0 : Int32)), .val (.int (0 : Int32))] at_224 rfl rfl ?_
            refine og_iload X592 228 at_226 rfl rfl ?_
            refine og_ifY X592 256 at_228 (XT.i0_ne_t hc541) (by decide) (by decide) ?_
            refine og_iload X592 258 at_256 rfl rfl ?_
            refine og_iload X592 260 at_258 rfl rfl ?_
            refine og_icmpN X592 263 at_260 (XT.ii_ne_f (by decide)) rfl ?_
            refine og_iconst X592 264 (1 : Int32) at_263 rfl rfl ?_
            refine og_goto X592 268 at_264 (by decide) (by decide) ?_
            refine own_retZ X592 at_268 hret rfl (by decide) (by decide) ?_
            exact rfl
          · -- not
            refine og_icmpY X538 194 at_182 (XT.ii_ne_t hc588) (by decide) (by decide) ?_
            refine og_iload X538 196 at_194 rfl rfl ?_
            refine og_iconst X538 197 (2 : Int32) at_196 rfl rfl ?_
            by_cases hc593 : ((XT.ushr pm (2 : Int32)) &&& (3 : Int32)) = (2 : Int32)
            · -- ((XT.ushr pm (2 : Int32)) &&& (3 : Int32)) = (2 : Int32)
              refine og_icmpN X538 200 at_197 (XT.ii_ne_f hc593) rfl ?_
              refine og_aload X538 202 at_200 rfl rfl rfl ?_
              refine og_astore X538 204 #[.val (.int k1), .val (.int u1), .val (.int k2), .val (.int u2), .val (.int pm), .val (.int (0 : Int32)), .val (.int (1 : Int32)), .val (.int ((XT.ushr pm (2 : Int32)) &&& (3 : Int32))), .val (.ref r501), .val (.ref r503), .val (.ref r505), .val (.ref r507), .val (.int (0 : Int32)), .val (.int (1 : Int32)), .val (.ref b511), .val (.ref b526), .val (.ref r505), .unset, .unset] at_202 rfl rfl rfl ?_
              refine og_iconst X538 205 (0 : Int32) at_204 rfl rfl ?_
              refine og_istore X538 207 #[.val (.int k1), .val (.int u1), .val (.int k2), .val (.int u2), .val (.int pm), .val (.int (0 : Int32)), .val (.int (1 : Int32)), .val (.int ((XT.ushr pm (2 : Int32)) &&& (3 : Int32))), .val (.ref r501), .val (.ref r503), .val (.ref r505), .val (.ref r507), .val (.int (0 : Int32)), .val (.int (1 : Int32)), .val (.ref b511), .val (.ref b526), .val (.ref r505), .val (.int (0 : Int32)), .unset] at_205 rfl rfl ?_
              refine og_goto X538 217 at_207 (by decide) (by decide) ?_
              refine og_aload X538 219 at_217 rfl rfl rfl ?_
              refine og_aload X538 221 at_219 rfl rfl rfl ?_
              have f594 := E511.keep K523
              have f595 := f594.keep K526
              have f596 := f595.keep K538
              have f597 := f533.keep K538
              refine own_virt X538 224 (a := b511) (argsL := [(.ref r505)]) (rest := []) at_221 f596 (fun _ hZ => notFace_of_selects (args := #[]) (mvT hZ (hw _ (List.mem_of_getElem? (i := 73) rfl)))) (rm_eqS l Z a0 hw n0 h538 hWd [] X538.old b511 r505 f597 ) (hw _ (List.mem_of_getElem? (i := 70) rfl)) (hw _ (List.mem_of_getElem? (i := 71) rfl)) (hw _ (List.mem_of_getElem? (i := 73) rfl)) (hw _ (List.mem_of_getElem? (i := 72) rfl)) (hw _ (List.mem_of_getElem? (i := 56) rfl)) (hw _ (List.mem_of_getElem? (i := 74) rfl)) (by decide) (lenOf pd__28Ljava_2flang_2fObject_3b_29Z rfl) rfl rfl rfl (W := 0) rfl (by decide) (by decide) (by decide) (by decide) all0 rfl ?_
              intro T598 h598 v598 X598 K598 hQ598
              obtain rfl := hQ598
              show OGo _ _ _ _ T598 (mkF m 224 #[.val (.int k1), .val (.int u1), .val (.int k2), .val (.int u2), .val (.int pm), .val (.int (0 : Int32)), .val (.int (1 : Int32)), .val (.int ((XT.ushr pm (2 : Int32)) &&& (3 : Int32))), .val (.ref r501), .val (.ref r503), .val (.ref r505), .val (.ref r507), .val (.int (0 : Int32)), .val (.int (1 : Int32)), .val (.ref b511), .val (.ref b526), .val (.ref r505), .val (.int (0 : Int32)), .unset] [(.int (0 : Int32))])
              refine og_istore X598 226 #[.val (.int k1), .val (.int u1), .val (.int k2), .val (.int u2), .val (.int pm), .val (.int (0 : Int32)), .val (.int (1 : Int32)), .val (.int ((XT.ushr pm (2 : Int32)) &&& (3 : Int32))), .val (.ref r501), .val (.ref r503), .val (.ref r505), .val (.ref r507), .val (.int (0 : Int32)), .val (.int (1 : Int32)), .val (.ref b511), .val (.ref b526), .val (.ref r505), .val (.int (0 : Int32)), .val (.int (0 : Int32))] at_224 rfl rfl ?_
              refine og_iload X598 228 at_226 rfl rfl ?_
              refine og_ifY X598 256 at_228 (XT.i0_ne_t hc541) (by decide) (by decide) ?_
              refine og_iload X598 258 at_256 rfl rfl ?_
              refine og_iload X598 260 at_258 rfl rfl ?_
              refine og_icmpN X598 263 at_260 (XT.ii_ne_f (by decide)) rfl ?_
              refine og_iconst X598 264 (1 : Int32) at_263 rfl rfl ?_
              refine og_goto X598 268 at_264 (by decide) (by decide) ?_
              refine own_retZ X598 at_268 hret rfl (by decide) (by decide) ?_
              exact rfl
            · -- not
              refine og_icmpY X538 210 at_197 (XT.ii_ne_t hc593) (by decide) (by decide) ?_
              refine og_aload X538 212 at_210 rfl rfl rfl ?_
              refine og_astore X538 214 #[.val (.int k1), .val (.int u1), .val (.int k2), .val (.int u2), .val (.int pm), .val (.int (0 : Int32)), .val (.int (1 : Int32)), .val (.int ((XT.ushr pm (2 : Int32)) &&& (3 : Int32))), .val (.ref r501), .val (.ref r503), .val (.ref r505), .val (.ref r507), .val (.int (0 : Int32)), .val (.int (1 : Int32)), .val (.ref b511), .val (.ref b526), .val (.ref b511), .unset, .unset] at_212 rfl rfl rfl ?_
              refine og_iconst X538 215 (1 : Int32) at_214 rfl rfl ?_
              refine og_istore X538 217 #[.val (.int k1), .val (.int u1), .val (.int k2), .val (.int u2), .val (.int pm), .val (.int (0 : Int32)), .val (.int (1 : Int32)), .val (.int ((XT.ushr pm (2 : Int32)) &&& (3 : Int32))), .val (.ref r501), .val (.ref r503), .val (.ref r505), .val (.ref r507), .val (.int (0 : Int32)), .val (.int (1 : Int32)), .val (.ref b511), .val (.ref b526), .val (.ref b511), .val (.int (1 : Int32)), .unset] at_215 rfl rfl ?_
              refine og_aload X538 219 at_217 rfl rfl rfl ?_
              refine og_aload X538 221 at_219 rfl rfl rfl ?_
              have f599 := E511.keep K523
              have f600 := f599.keep K526
              have f601 := f600.keep K538
              have f602 := f524.keep K526 nin0
              have f603 := f602.keep K538 (ninS (Nat.ne_of_lt (Nat.lt_of_lt_of_le (Nat.lt_of_lt_of_le U511 K523.1) G526)) nin0)
              have f604 := f525.keep K526 nin0
              have f605 := f604.keep K538 (ninS (Nat.ne_of_lt (Nat.lt_of_lt_of_le (Nat.lt_of_lt_of_le U511 K523.1) G526)) nin0)
              have f606 := f502.keep K503 all0
              have f607 := f606.keep K505 all0
              have f608 := f607.keep K507 all0
              have f609 := f608.keep K509 all0
              have f610 := f609.keep K511 all0
              have f611 := f610.keep K523 (allS (Or.inl (Nat.le_trans (Nat.le_trans (Nat.le_trans (Nat.le_trans K503.1 K505.1) K507.1) K509.1) G511)) all0)
              have f612 := f611.keep K526 all0
              have f613 := f612.keep K538 (allS (Or.inl (Nat.le_trans (Nat.le_trans (Nat.le_trans (Nat.le_trans (Nat.le_trans (Nat.le_trans K503.1 K505.1) K507.1) K509.1) K511.1) K523.1) G526)) all0)
              have f614 := f504.keep K505 all0
              have f615 := f614.keep K507 all0
              have f616 := f615.keep K509 all0
              have f617 := f616.keep K511 all0
              have f618 := f617.keep K523 (allS (Or.inl (Nat.le_trans (Nat.le_trans (Nat.le_trans K505.1 K507.1) K509.1) G511)) all0)
              have f619 := f618.keep K526 all0
              have f620 := f619.keep K538 (allS (Or.inl (Nat.le_trans (Nat.le_trans (Nat.le_trans (Nat.le_trans (Nat.le_trans K505.1 K507.1) K509.1) K511.1) K523.1) G526)) all0)
              refine own_virt X538 224 (a := b511) (argsL := [(.ref b511)]) (rest := []) at_221 f601 (fun _ hZ => notFace_of_selects (args := #[]) (mvT hZ (hw _ (List.mem_of_getElem? (i := 73) rfl)))) (rm_eqK l Z a0 hw n0 h538 hWd [] X538.old b511 b511 r501 r503 r501 r503 (own_mk k1) (own_mk u1) (own_mk k1) (own_mk u1) f601 f603 f605 f603 f605 f613.top f620.top f613.top f620.top ) (hw _ (List.mem_of_getElem? (i := 70) rfl)) (hw _ (List.mem_of_getElem? (i := 71) rfl)) (hw _ (List.mem_of_getElem? (i := 73) rfl)) (hw _ (List.mem_of_getElem? (i := 72) rfl)) (hw _ (List.mem_of_getElem? (i := 56) rfl)) (hw _ (List.mem_of_getElem? (i := 74) rfl)) (by decide) (lenOf pd__28Ljava_2flang_2fObject_3b_29Z rfl) rfl rfl rfl (W := 0) rfl (by decide) (by decide) (by decide) (by decide) all0 rfl ?_
              intro T621 h621 v621 X621 K621 hQ621
              obtain rfl := hQ621
              show OGo _ _ _ _ T621 (mkF m 224 #[.val (.int k1), .val (.int u1), .val (.int k2), .val (.int u2), .val (.int pm), .val (.int (0 : Int32)), .val (.int (1 : Int32)), .val (.int ((XT.ushr pm (2 : Int32)) &&& (3 : Int32))), .val (.ref r501), .val (.ref r503), .val (.ref r505), .val (.ref r507), .val (.int (0 : Int32)), .val (.int (1 : Int32)), .val (.ref b511), .val (.ref b526), .val (.ref b511), .val (.int (1 : Int32)), .unset] [(.int (own_eq2 (own_mk k1) (own_mk u1) (own_mk k1) (own_mk u1)))])
              refine og_istore X621 226 #[.val (.int k1), .val (.int u1), .val (.int k2), .val (.int u2), .val (.int pm), .val (.int (0 : Int32)), .val (.int (1 : Int32)), .val (.int ((XT.ushr pm (2 : Int32)) &&& (3 : Int32))), .val (.ref r501), .val (.ref r503), .val (.ref r505), .val (.ref r507), .val (.int (0 : Int32)), .val (.int (1 : Int32)), .val (.ref b511), .val (.ref b526), .val (.ref b511), .val (.int (1 : Int32)), .val (.int (own_eq2 (own_mk k1) (own_mk u1) (own_mk k1) (own_mk u1)))] at_224 rfl rfl ?_
              refine og_iload X621 228 at_226 rfl rfl ?_
              refine og_ifY X621 256 at_228 (XT.i0_ne_t hc541) (by decide) (by decide) ?_
              refine og_iload X621 258 at_256 rfl rfl ?_
              refine og_iload X621 260 at_258 rfl rfl ?_
              refine og_icmpN X621 263 at_260 (XT.ii_ne_f (own_eq2_1 rfl rfl)) rfl ?_
              refine og_iconst X621 264 (1 : Int32) at_263 rfl rfl ?_
              refine og_goto X621 268 at_264 (by decide) (by decide) ?_
              refine own_retZ X621 at_268 hret rfl (by decide) (by decide) ?_
              exact rfl
      · -- not
        refine og_ifN X509 97 at_94 (XT.i0_eq_f hc510) rfl ?_
        refine og_iconst X509 98 (1 : Int32) at_97 rfl rfl ?_
        refine og_goto X509 102 at_98 (by decide) (by decide) ?_
        refine og_istore X509 104 #[.val (.int k1), .val (.int u1), .val (.int k2), .val (.int u2), .val (.int pm), .val (.int (0 : Int32)), .val (.int (1 : Int32)), .val (.int ((XT.ushr pm (2 : Int32)) &&& (3 : Int32))), .val (.ref r501), .val (.ref r503), .val (.ref r505), .val (.ref r507), .val (.int (1 : Int32)), .unset, .unset, .unset, .unset, .unset, .unset] at_102 rfl rfl ?_
        refine og_iload X509 106 at_104 rfl rfl ?_
        refine og_ifY X509 117 at_106 (XT.i0_ne_t (by decide)) (by decide) (by decide) ?_
        refine og_iconst X509 118 (1 : Int32) at_117 rfl rfl ?_
        refine og_goto X509 122 at_118 (by decide) (by decide) ?_
        refine og_istore X509 124 #[.val (.int k1), .val (.int u1), .val (.int k2), .val (.int u2), .val (.int pm), .val (.int (0 : Int32)), .val (.int (1 : Int32)), .val (.int ((XT.ushr pm (2 : Int32)) &&& (3 : Int32))), .val (.ref r501), .val (.ref r503), .val (.ref r505), .val (.ref r507), .val (.int (1 : Int32)), .val (.int (1 : Int32)), .unset, .unset, .unset, .unset, .unset] at_122 rfl rfl ?_
        refine own_new X509 127 at_124 (hw _ (List.mem_of_getElem? (i := 54) rfl)) (hw _ (List.mem_of_getElem? (i := 55) rfl)) (hw _ (List.mem_of_getElem? (i := 56) rfl)) (by decide) (by decide) rfl ?_
        intro T622 h622 b622 X622 K622 G622 U622 E622 D622
        have f623 : Fld Z h622 b622 "com/example/chitragupta/chitragupta/model/HelpdeskSite" "kind" "Ljava/lang/String;" .null := D622 (Or.inr (hw _ (List.mem_of_getElem? (i := 67) rfl))) (ty := (.object "java/lang/String")) (by decide)
        have f624 : Fld Z h622 b622 "com/example/chitragupta/chitragupta/model/HelpdeskSite" "url" "Ljava/lang/String;" .null := D622 (Or.inr (hw _ (List.mem_of_getElem? (i := 69) rfl))) (ty := (.object "java/lang/String")) (by decide)
        refine og_dup X622 128 at_127 rfl rfl ?_
        refine og_aload X622 130 at_128 rfl rfl rfl ?_
        refine og_aload X622 132 at_130 rfl rfl rfl ?_
        have f625 := f502.exa.keep K503
        have f626 := f625.keep K505
        have f627 := f626.keep K507
        have f628 := f627.keep K509
        have f629 := f628.keep K622
        have f630 := f504.exa.keep K505
        have f631 := f630.keep K507
        have f632 := f631.keep K509
        have f633 := f632.keep K622
        refine own_spec X622 135 (a := b622) (argsL := [(.ref r501), (.ref r503)]) (rest := [(.ref b622)]) at_132 rfl (rm13 l Z a0 hw n0 h622 hWd [] X622.old b622 r501 r503 E622 f623 f624 f629 f633 (own_svb X622 (List.mem_of_getElem? (i := 0) rfl))) (hw _ (List.mem_of_getElem? (i := 57) rfl)) (hw _ (List.mem_of_getElem? (i := 58) rfl)) (hw _ (List.mem_of_getElem? (i := 56) rfl)) (hw _ (List.mem_of_getElem? (i := 59) rfl)) (by decide) (lenOf pd__28Ljava_2flang_2fString_3bLjava_2flang_2fString_3b_29V rfl) rfl rfl rfl (W := 1) rfl (by decide) (by decide) (by decide) (by decide) (allS (List.mem_of_getElem? (i := 0) rfl) all0) rfl ?_
        intro T634 h634 v634 X634 K634 hQ634
        obtain ⟨rfl, f635, f636⟩ := hQ634
        show OGo _ _ _ _ T634 (mkF m 135 #[.val (.int k1), .val (.int u1), .val (.int k2), .val (.int u2), .val (.int pm), .val (.int (0 : Int32)), .val (.int (1 : Int32)), .val (.int ((XT.ushr pm (2 : Int32)) &&& (3 : Int32))), .val (.ref r501), .val (.ref r503), .val (.ref r505), .val (.ref r507), .val (.int (1 : Int32)), .val (.int (1 : Int32)), .unset, .unset, .unset, .unset, .unset] [(.ref b622)])
        refine og_astore X634 137 #[.val (.int k1), .val (.int u1), .val (.int k2), .val (.int u2), .val (.int pm), .val (.int (0 : Int32)), .val (.int (1 : Int32)), .val (.int ((XT.ushr pm (2 : Int32)) &&& (3 : Int32))), .val (.ref r501), .val (.ref r503), .val (.ref r505), .val (.ref r507), .val (.int (1 : Int32)), .val (.int (1 : Int32)), .val (.ref b622), .unset, .unset, .unset, .unset] at_135 rfl rfl rfl ?_
        refine own_new X634 140 at_137 (hw _ (List.mem_of_getElem? (i := 54) rfl)) (hw _ (List.mem_of_getElem? (i := 55) rfl)) (hw _ (List.mem_of_getElem? (i := 56) rfl)) (by decide) (by decide) rfl ?_
        intro T637 h637 b637 X637 K637 G637 U637 E637 D637
        have f638 : Fld Z h637 b637 "com/example/chitragupta/chitragupta/model/HelpdeskSite" "kind" "Ljava/lang/String;" .null := D637 (Or.inr (hw _ (List.mem_of_getElem? (i := 67) rfl))) (ty := (.object "java/lang/String")) (by decide)
        have f639 : Fld Z h637 b637 "com/example/chitragupta/chitragupta/model/HelpdeskSite" "url" "Ljava/lang/String;" .null := D637 (Or.inr (hw _ (List.mem_of_getElem? (i := 69) rfl))) (ty := (.object "java/lang/String")) (by decide)
        refine og_dup X637 141 at_140 rfl rfl ?_
        refine og_aload X637 143 at_141 rfl rfl rfl ?_
        refine og_aload X637 145 at_143 rfl rfl rfl ?_
        have f640 := f506.exa.keep K507
        have f641 := f640.keep K509
        have f642 := f641.keep K622
        have f643 := f642.keep K634
        have f644 := f643.keep K637
        have f645 := f508.exa.keep K509
        have f646 := f645.keep K622
        have f647 := f646.keep K634
        have f648 := f647.keep K637
        refine own_spec X637 148 (a := b637) (argsL := [(.ref r505), (.ref r507)]) (rest := [(.ref b637)]) at_145 rfl (rm13 l Z a0 hw n0 h637 hWd [] X637.old b637 r505 r507 E637 f638 f639 f644 f648 (own_svb X637 (List.mem_of_getElem? (i := 0) rfl))) (hw _ (List.mem_of_getElem? (i := 57) rfl)) (hw _ (List.mem_of_getElem? (i := 58) rfl)) (hw _ (List.mem_of_getElem? (i := 56) rfl)) (hw _ (List.mem_of_getElem? (i := 59) rfl)) (by decide) (lenOf pd__28Ljava_2flang_2fString_3bLjava_2flang_2fString_3b_29V rfl) rfl rfl rfl (W := 1) rfl (by decide) (by decide) (by decide) (by decide) (allS (List.mem_of_getElem? (i := 0) rfl) all0) rfl ?_
        intro T649 h649 v649 X649 K649 hQ649
        obtain ⟨rfl, f650, f651⟩ := hQ649
        show OGo _ _ _ _ T649 (mkF m 148 #[.val (.int k1), .val (.int u1), .val (.int k2), .val (.int u2), .val (.int pm), .val (.int (0 : Int32)), .val (.int (1 : Int32)), .val (.int ((XT.ushr pm (2 : Int32)) &&& (3 : Int32))), .val (.ref r501), .val (.ref r503), .val (.ref r505), .val (.ref r507), .val (.int (1 : Int32)), .val (.int (1 : Int32)), .val (.ref b622), .unset, .unset, .unset, .unset] [(.ref b637)])
        refine og_astore X649 150 #[.val (.int k1), .val (.int u1), .val (.int k2), .val (.int u2), .val (.int pm), .val (.int (0 : Int32)), .val (.int (1 : Int32)), .val (.int ((XT.ushr pm (2 : Int32)) &&& (3 : Int32))), .val (.ref r501), .val (.ref r503), .val (.ref r505), .val (.ref r507), .val (.int (1 : Int32)), .val (.int (1 : Int32)), .val (.ref b622), .val (.ref b637), .unset, .unset, .unset] at_148 rfl rfl rfl ?_
        refine og_iload X649 152 at_150 rfl rfl ?_
        by_cases hc652 : ((XT.ushr pm (2 : Int32)) &&& (3 : Int32)) = 0
        · -- ((XT.ushr pm (2 : Int32)) &&& (3 : Int32)) = 0
          refine og_ifN X649 155 at_152 (XT.i0_ne_f hc652) rfl ?_
          refine og_aload X649 157 at_155 rfl rfl rfl ?_
          refine og_astore X649 159 #[.val (.int k1), .val (.int u1), .val (.int k2), .val (.int u2), .val (.int pm), .val (.int (0 : Int32)), .val (.int (1 : Int32)), .val (.int ((XT.ushr pm (2 : Int32)) &&& (3 : Int32))), .val (.ref r501), .val (.ref r503), .val (.ref r505), .val (.ref r507), .val (.int (1 : Int32)), .val (.int (1 : Int32)), .val (.ref b622), .val (.ref b637), .val (.ref b637), .unset, .unset] at_157 rfl rfl rfl ?_
          refine og_iload X649 161 at_159 rfl rfl ?_
          refine og_ifN X649 164 at_161 (XT.i0_eq_f (by decide)) rfl ?_
          refine og_iload X649 166 at_164 rfl rfl ?_
          refine og_ifN X649 169 at_166 (XT.i0_eq_f (by decide)) rfl ?_
          refine og_iconst X649 170 (1 : Int32) at_169 rfl rfl ?_
          refine og_goto X649 174 at_170 (by decide) (by decide) ?_
          refine og_istore X649 176 #[.val (.int k1), .val (.int u1), .val (.int k2), .val (.int u2), .val (.int pm), .val (.int (0 : Int32)), .val (.int (1 : Int32)), .val (.int ((XT.ushr pm (2 : Int32)) &&& (3 : Int32))), .val (.ref r501), .val (.ref r503), .val (.ref r505), .val (.ref r507), .val (.int (1 : Int32)), .val (.int (1 : Int32)), .val (.ref b622), .val (.ref b637), .val (.ref b637), .val (.int (1 : Int32)), .unset] at_174 rfl rfl ?_
          refine og_goto X649 217 at_176 (by decide) (by decide) ?_
          refine og_aload X649 219 at_217 rfl rfl rfl ?_
          refine og_aload X649 221 at_219 rfl rfl rfl ?_
          have f653 := E622.keep K634
          have f654 := f653.keep K637
          have f655 := f654.keep K649
          have f656 := E637.keep K649
          have f657 := f635.keep K637 nin0
          have f658 := f657.keep K649 (ninS (Nat.ne_of_lt (Nat.lt_of_lt_of_le (Nat.lt_of_lt_of_le U622 K634.1) G637)) nin0)
          have f659 := f636.keep K637 nin0
          have f660 := f659.keep K649 (ninS (Nat.ne_of_lt (Nat.lt_of_lt_of_le (Nat.lt_of_lt_of_le U622 K634.1) G637)) nin0)
          have f661 := f502.keep K503 all0
          have f662 := f661.keep K505 all0
          have f663 := f662.keep K507 all0
          have f664 := f663.keep K509 all0
          have f665 := f664.keep K622 all0
          have f666 := f665.keep K634 (allS (Or.inl (Nat.le_trans (Nat.le_trans (Nat.le_trans (Nat.le_trans K503.1 K505.1) K507.1) K509.1) G622)) all0)
          have f667 := f666.keep K637 all0
          have f668 := f667.keep K649 (allS (Or.inl (Nat.le_trans (Nat.le_trans (Nat.le_trans (Nat.le_trans (Nat.le_trans (Nat.le_trans K503.1 K505.1) K507.1) K509.1) K622.1) K634.1) G637)) all0)
          have f669 := f504.keep K505 all0
          have f670 := f669.keep K507 all0
          have f671 := f670.keep K509 all0
          have f672 := f671.keep K622 all0
          have f673 := f672.keep K634 (allS (Or.inl (Nat.le_trans (Nat.le_trans (Nat.le_trans K505.1 K507.1) K509.1) G622)) all0)
          have f674 := f673.keep K637 all0
          have f675 := f674.keep K649 (allS (Or.inl (Nat.le_trans (Nat.le_trans (Nat.le_trans (Nat.le_trans (Nat.le_trans K505.1 K507.1) K509.1) K622.1) K634.1) G637)) all0)
          have f676 := f506.keep K507 all0
          have f677 := f676.keep K509 all0
          have f678 := f677.keep K622 all0
          have f679 := f678.keep K634 (allS (Or.inl (Nat.le_trans (Nat.le_trans K507.1 K509.1) G622)) all0)
          have f680 := f679.keep K637 all0
          have f681 := f680.keep K649 (allS (Or.inl (Nat.le_trans (Nat.le_trans (Nat.le_trans (Nat.le_trans K507.1 K509.1) K622.1) K634.1) G637)) all0)
          have f682 := f508.keep K509 all0
          have f683 := f682.keep K622 all0
          have f684 := f683.keep K634 (allS (Or.inl (Nat.le_trans K509.1 G622)) all0)
          have f685 := f684.keep K637 all0
          have f686 := f685.keep K649 (allS (Or.inl (Nat.le_trans (Nat.le_trans (Nat.le_trans K509.1 K622.1) K634.1) G637)) all0)
          refine own_virt X649 224 (a := b622) (argsL := [(.ref b637)]) (rest := []) at_221 f655 (fun _ hZ => notFace_of_selects (args := #[]) (mvT hZ (hw _ (List.mem_of_getElem? (i := 73) rfl)))) (rm_eqK l Z a0 hw n0 h649 hWd [] X649.old b622 b637 r501 r503 r505 r507 (own_mk k1) (own_mk u1) (own_mk k2) (own_mk u1) f656 f658 f660 f650 f651 f668.top f675.top f681.top f686.top ) (hw _ (List.mem_of_getElem? (i := 70) rfl)) (hw _ (List.mem_of_getElem? (i := 71) rfl)) (hw _ (List.mem_of_getElem? (i := 73) rfl)) (hw _ (List.mem_of_getElem? (i := 72) rfl)) (hw _ (List.mem_of_getElem? (i := 56) rfl)) (hw _ (List.mem_of_getElem? (i := 74) rfl)) (by decide) (lenOf pd__28Ljava_2flang_2fObject_3b_29Z rfl) rfl rfl rfl (W := 0) rfl (by decide) (by decide) (by decide) (by decide) all0 rfl ?_
          intro T687 h687 v687 X687 K687 hQ687
          obtain rfl := hQ687
          show OGo _ _ _ _ T687 (mkF m 224 #[.val (.int k1), .val (.int u1), .val (.int k2), .val (.int u2), .val (.int pm), .val (.int (0 : Int32)), .val (.int (1 : Int32)), .val (.int ((XT.ushr pm (2 : Int32)) &&& (3 : Int32))), .val (.ref r501), .val (.ref r503), .val (.ref r505), .val (.ref r507), .val (.int (1 : Int32)), .val (.int (1 : Int32)), .val (.ref b622), .val (.ref b637), .val (.ref b637), .val (.int (1 : Int32)), .unset] [(.int (own_eq2 (own_mk k1) (own_mk u1) (own_mk k2) (own_mk u1)))])
          refine og_istore X687 226 #[.val (.int k1), .val (.int u1), .val (.int k2), .val (.int u2), .val (.int pm), .val (.int (0 : Int32)), .val (.int (1 : Int32)), .val (.int ((XT.ushr pm (2 : Int32)) &&& (3 : Int32))), .val (.ref r501), .val (.ref r503), .val (.ref r505), .val (.ref r507), .val (.int (1 : Int32)), .val (.int (1 : Int32)), .val (.ref b622), .val (.ref b637), .val (.ref b637), .val (.int (1 : Int32)), .val (.int (own_eq2 (own_mk k1) (own_mk u1) (own_mk k2) (own_mk u1)))] at_224 rfl rfl ?_
          refine og_iload X687 228 at_226 rfl rfl ?_
          refine og_ifN X687 231 at_228 (XT.i0_ne_f hc652) rfl ?_
          refine og_iload X687 233 at_231 rfl rfl ?_
          refine og_iload X687 235 at_233 rfl rfl ?_
          refine og_icmpN X687 238 at_235 (XT.ii_ne_f (own_eq2_1 (own_eqb_yes hc510) rfl)) rfl ?_
          refine og_aload X687 240 at_238 rfl rfl rfl ?_
          refine og_aload X687 242 at_240 rfl rfl rfl ?_
          have f688 := f656.keep K687
          have f689 := f655.keep K687
          have f690 := f650.keep K687 nin0
          have f691 := f651.keep K687 nin0
          have f692 := f658.keep K687 nin0
          have f693 := f660.keep K687 nin0
          have f694 := f681.keep K687 all0
          have f695 := f686.keep K687 all0
          have f696 := f668.keep K687 all0
          have f697 := f675.keep K687 all0
          refine own_virt X687 245 (a := b637) (argsL := [(.ref b622)]) (rest := []) at_242 f688 (fun _ hZ => notFace_of_selects (args := #[]) (mvT hZ (hw _ (List.mem_of_getElem? (i := 73) rfl)))) (rm_eqK l Z a0 hw n0 h687 hWd [] X687.old b637 b622 r505 r507 r501 r503 (own_mk k2) (own_mk u1) (own_mk k1) (own_mk u1) f689 f690 f691 f692 f693 f694.top f695.top f696.top f697.top ) (hw _ (List.mem_of_getElem? (i := 70) rfl)) (hw _ (List.mem_of_getElem? (i := 71) rfl)) (hw _ (List.mem_of_getElem? (i := 73) rfl)) (hw _ (List.mem_of_getElem? (i := 72) rfl)) (hw _ (List.mem_of_getElem? (i := 56) rfl)) (hw _ (List.mem_of_getElem? (i := 74) rfl)) (by decide) (lenOf pd__28Ljava_2flang_2fObject_3b_29Z rfl) rfl rfl rfl (W := 0) rfl (by decide) (by decide) (by decide) (by decide) all0 rfl ?_
          intro T698 h698 v698 X698 K698 hQ698
          obtain rfl := hQ698
          show OGo _ _ _ _ T698 (mkF m 245 #[.val (.int k1), .val (.int u1), .val (.int k2), .val (.int u2), .val (.int pm), .val (.int (0 : Int32)), .val (.int (1 : Int32)), .val (.int ((XT.ushr pm (2 : Int32)) &&& (3 : Int32))), .val (.ref r501), .val (.ref r503), .val (.ref r505), .val (.ref r507), .val (.int (1 : Int32)), .val (.int (1 : Int32)), .val (.ref b622), .val (.ref b637), .val (.ref b637), .val (.int (1 : Int32)), .val (.int (own_eq2 (own_mk k1) (own_mk u1) (own_mk k2) (own_mk u1)))] [(.int (own_eq2 (own_mk k2) (own_mk u1) (own_mk k1) (own_mk u1)))])
          refine og_iload X698 247 at_245 rfl rfl ?_
          refine og_icmpN X698 250 at_247 (XT.ii_ne_f (own_eq2_1 (own_eqb_yes hc510).symm rfl)) rfl ?_
          refine og_iconst X698 251 (1 : Int32) at_250 rfl rfl ?_
          refine og_goto X698 255 at_251 (by decide) (by decide) ?_
          refine own_retZ X698 at_255 hret rfl (by decide) (by decide) ?_
          exact rfl
        · -- not
          refine og_ifY X649 179 at_152 (XT.i0_ne_t hc652) (by decide) (by decide) ?_
          refine og_iload X649 181 at_179 rfl rfl ?_
          refine og_iconst X649 182 (1 : Int32) at_181 rfl rfl ?_
          by_cases hc699 : ((XT.ushr pm (2 : Int32)) &&& (3 : Int32)) = (1 : Int32)
          · -- ((XT.ushr pm (2 : Int32)) &&& (3 : Int32)) = (1 : Int32)
            refine og_icmpN X649 185 at_182 (XT.ii_ne_f hc699) rfl ?_
            refine og_aconstNull X649 186 at_185 rfl ?_
            refine og_astore X649 188 #[.val (.int k1), .val (.int u1), .val (.int k2), .val (.int u2), .val (.int pm), .val (.int (0 : Int32)), .val (.int (1 : Int32)), .val (.int ((XT.ushr pm (2 : Int32)) &&& (3 : Int32))), .val (.ref r501), .val (.ref r503), .val (.ref r505), .val (.ref r507), .val (.int (1 : Int32)), .val (.int (1 : Int32)), .val (.ref b622), .val (.ref b637), .val .null, .unset, .unset] at_186 rfl rfl rfl ?_
            refine og_iconst X649 189 (0 : Int32) at_188 rfl rfl ?_
            refine og_istore X649 191 #[.val (.int k1), .val (.int u1), .val (.int k2), .val (.int u2), .val (.int pm), .val (.int (0 : Int32)), .val (.int (1 : Int32)), .val (.int ((XT.ushr pm (2 : Int32)) &&& (3 : Int32))), .val (.ref r501), .val (.ref r503), .val (.ref r505), .val (.ref r507), .val (.int (1 : Int32)), .val (.int (1 : Int32)), .val (.ref b622), .val (.ref b637), .val .null, .val (.int (0 : Int32)), .unset] at_189 rfl rfl ?_
            refine og_goto X649 217 at_191 (by decide) (by decide) ?_
            refine og_aload X649 219 at_217 rfl rfl rfl ?_
            refine og_aload X649 221 at_219 rfl rfl rfl ?_
            have f700 := E622.keep K634
            have f701 := f700.keep K637
            have f702 := f701.keep K649
            refine own_virt X649 224 (a := b622) (argsL := [.null]) (rest := []) at_221 f702 (fun _ hZ => notFace_of_selects (args := #[]) (mvT hZ (hw _ (List.mem_of_getElem? (i := 73) rfl)))) (rm_eqN l Z a0 hw n0 h649 hWd [] X649.old b622  ) (hw _ (List.mem_of_getElem? (i := 70) rfl)) (hw _ (List.mem_of_getElem? (i := 71) rfl)) (hw _ (List.mem_of_getElem? (i := 73) rfl)) (hw _ (List.mem_of_getElem? (i := 72) rfl)) (hw _ (List.mem_of_getElem? (i := 56) rfl)) (hw _ (List.mem_of_getElem? (i := 74) rfl)) (by decide) (lenOf pd__28Ljava_2flang_2fObject_3b_29Z rfl) rfl rfl rfl (W := 0) rfl (by decide) (by decide) (by decide) (by decide) all0 rfl ?_
            intro T703 h703 v703 X703 K703 hQ703
            obtain rfl := hQ703
            show OGo _ _ _ _ T703 (mkF m 224 #[.val (.int k1), .val (.int u1), .val (.int k2), .val (.int u2), .val (.int pm), .val (.int (0 : Int32)), .val (.int (1 : Int32)), .val (.int ((XT.ushr pm (2 : Int32)) &&& (3 : Int32))), .val (.ref r501), .val (.ref r503), .val (.ref r505), .val (.ref r507), .val (.int (1 : Int32)), .val (.int (1 : Int32)), .val (.ref b622), .val (.ref b637), .val .null, .val (.int (0 : Int32)), .unset] [(.int (0 : Int32))])
            refine og_istore X703 226 #[.val (.int k1), .val (.int u1), .val (.int k2), .val (.int u2), .val (.int pm), .val (.int (0 : Int32)), .val (.int (1 : Int32)), .val (.int ((XT.ushr pm (2 : Int32)) &&& (3 : Int32))), .val (.ref r501), .val (.ref r503), .val (.ref r505), .val (.ref r507), .val (.int (1 : Int32)), .val (.int (1 : Int32)), .val (.ref b622), .val (.ref b637), .val .null, .val (.int (0 : Int32)), .val (.int (0 : Int32))] at_224 rfl rfl ?_
            refine og_iload X703 228 at_226 rfl rfl ?_
            refine og_ifY X703 256 at_228 (XT.i0_ne_t hc652) (by decide) (by decide) ?_
            refine og_iload X703 258 at_256 rfl rfl ?_
            refine og_iload X703 260 at_258 rfl rfl ?_
            refine og_icmpN X703 263 at_260 (XT.ii_ne_f (by decide)) rfl ?_
            refine og_iconst X703 264 (1 : Int32) at_263 rfl rfl ?_
            refine og_goto X703 268 at_264 (by decide) (by decide) ?_
            refine own_retZ X703 at_268 hret rfl (by decide) (by decide) ?_
            exact rfl
          · -- not
            refine og_icmpY X649 194 at_182 (XT.ii_ne_t hc699) (by decide) (by decide) ?_
            refine og_iload X649 196 at_194 rfl rfl ?_
            refine og_iconst X649 197 (2 : Int32) at_196 rfl rfl ?_
            by_cases hc704 : ((XT.ushr pm (2 : Int32)) &&& (3 : Int32)) = (2 : Int32)
            · -- ((XT.ushr pm (2 : Int32)) &&& (3 : Int32)) = (2 : Int32)
              refine og_icmpN X649 200 at_197 (XT.ii_ne_f hc704) rfl ?_
              refine og_aload X649 202 at_200 rfl rfl rfl ?_
              refine og_astore X649 204 #[.val (.int k1), .val (.int u1), .val (.int k2), .val (.int u2), .val (.int pm), .val (.int (0 : Int32)), .val (.int (1 : Int32)), .val (.int ((XT.ushr pm (2 : Int32)) &&& (3 : Int32))), .val (.ref r501), .val (.ref r503), .val (.ref r505), .val (.ref r507), .val (.int (1 : Int32)), .val (.int (1 : Int32)), .val (.ref b622), .val (.ref b637), .val (.ref r505), .unset, .unset] at_202 rfl rfl rfl ?_
              refine og_iconst X649 205 (0 : Int32) at_204 rfl rfl ?_
              refine og_istore X649 207 #[.val (.int k1), .val (.int u1), .val (.int k2), .val (.int u2), .val (.int pm), .val (.int (0 : Int32)), .val (.int (1 : Int32)), .val (.int ((XT.ushr pm (2 : Int32)) &&& (3 : Int32))), .val (.ref r501), .val (.ref r503), .val (.ref r505), .val (.ref r507), .val (.int (1 : Int32)), .val (.int (1 : Int32)), .val (.ref b622), .val (.ref b637), .val (.ref r505), .val (.int (0 : Int32)), .unset] at_205 rfl rfl ?_
              refine og_goto X649 217 at_207 (by decide) (by decide) ?_
              refine og_aload X649 219 at_217 rfl rfl rfl ?_
              refine og_aload X649 221 at_219 rfl rfl rfl ?_
              have f705 := E622.keep K634
              have f706 := f705.keep K637
              have f707 := f706.keep K649
              have f708 := f644.keep K649
              refine own_virt X649 224 (a := b622) (argsL := [(.ref r505)]) (rest := []) at_221 f707 (fun _ hZ => notFace_of_selects (args := #[]) (mvT hZ (hw _ (List.mem_of_getElem? (i := 73) rfl)))) (rm_eqS l Z a0 hw n0 h649 hWd [] X649.old b622 r505 f708 ) (hw _ (List.mem_of_getElem? (i := 70) rfl)) (hw _ (List.mem_of_getElem? (i := 71) rfl)) (hw _ (List.mem_of_getElem? (i := 73) rfl)) (hw _ (List.mem_of_getElem? (i := 72) rfl)) (hw _ (List.mem_of_getElem? (i := 56) rfl)) (hw _ (List.mem_of_getElem? (i := 74) rfl)) (by decide) (lenOf pd__28Ljava_2flang_2fObject_3b_29Z rfl) rfl rfl rfl (W := 0) rfl (by decide) (by decide) (by decide) (by decide) all0 rfl ?_
              intro T709 h709 v709 X709 K709 hQ709
              obtain rfl := hQ709
              show OGo _ _ _ _ T709 (mkF m 224 #[.val (.int k1), .val (.int u1), .val (.int k2), .val (.int u2), .val (.int pm), .val (.int (0 : Int32)), .val (.int (1 : Int32)), .val (.int ((XT.ushr pm (2 : Int32)) &&& (3 : Int32))), .val (.ref r501), .val (.ref r503), .val (.ref r505), .val (.ref r507), .val (.int (1 : Int32)), .val (.int (1 : Int32)), .val (.ref b622), .val (.ref b637), .val (.ref r505), .val (.int (0 : Int32)), .unset] [(.int (0 : Int32))])
              refine og_istore X709 226 #[.val (.int k1), .val (.int u1), .val (.int k2), .val (.int u2), .val (.int pm), .val (.int (0 : Int32)), .val (.int (1 : Int32)), .val (.int ((XT.ushr pm (2 : Int32)) &&& (3 : Int32))), .val (.ref r501), .val (.ref r503), .val (.ref r505), .val (.ref r507), .val (.int (1 : Int32)), .val (.int (1 : Int32)), .val (.ref b622), .val (.ref b637), .val (.ref r505), .val (.int (0 : Int32)), .val (.int (0 : Int32))] at_224 rfl rfl ?_
              refine og_iload X709 228 at_226 rfl rfl ?_
              refine og_ifY X709 256 at_228 (XT.i0_ne_t hc652) (by decide) (by decide) ?_
              refine og_iload X709 258 at_256 rfl rfl ?_
              refine og_iload X709 260 at_258 rfl rfl ?_
              refine og_icmpN X709 263 at_260 (XT.ii_ne_f (by decide)) rfl ?_
              refine og_iconst X709 264 (1 : Int32) at_263 rfl rfl ?_
              refine og_goto X709 268 at_264 (by decide) (by decide) ?_
              refine own_retZ X709 at_268 hret rfl (by decide) (by decide) ?_
              exact rfl
            · -- not
              refine og_icmpY X649 210 at_197 (XT.ii_ne_t hc704) (by decide) (by decide) ?_
              refine og_aload X649 212 at_210 rfl rfl rfl ?_
              refine og_astore X649 214 #[.val (.int k1), .val (.int u1), .val (.int k2), .val (.int u2), .val (.int pm), .val (.int (0 : Int32)), .val (.int (1 : Int32)), .val (.int ((XT.ushr pm (2 : Int32)) &&& (3 : Int32))), .val (.ref r501), .val (.ref r503), .val (.ref r505), .val (.ref r507), .val (.int (1 : Int32)), .val (.int (1 : Int32)), .val (.ref b622), .val (.ref b637), .val (.ref b622), .unset, .unset] at_212 rfl rfl rfl ?_
              refine og_iconst X649 215 (1 : Int32) at_214 rfl rfl ?_
              refine og_istore X649 217 #[.val (.int k1), .val (.int u1), .val (.int k2), .val (.int u2), .val (.int pm), .val (.int (0 : Int32)), .val (.int (1 : Int32)), .val (.int ((XT.ushr pm (2 : Int32)) &&& (3 : Int32))), .val (.ref r501), .val (.ref r503), .val (.ref r505), .val (.ref r507), .val (.int (1 : Int32)), .val (.int (1 : Int32)), .val (.ref b622), .val (.ref b637), .val (.ref b622), .val (.int (1 : Int32)), .unset] at_215 rfl rfl ?_
              refine og_aload X649 219 at_217 rfl rfl rfl ?_
              refine og_aload X649 221 at_219 rfl rfl rfl ?_
              have f710 := E622.keep K634
              have f711 := f710.keep K637
              have f712 := f711.keep K649
              have f713 := f635.keep K637 nin0
              have f714 := f713.keep K649 (ninS (Nat.ne_of_lt (Nat.lt_of_lt_of_le (Nat.lt_of_lt_of_le U622 K634.1) G637)) nin0)
              have f715 := f636.keep K637 nin0
              have f716 := f715.keep K649 (ninS (Nat.ne_of_lt (Nat.lt_of_lt_of_le (Nat.lt_of_lt_of_le U622 K634.1) G637)) nin0)
              have f717 := f502.keep K503 all0
              have f718 := f717.keep K505 all0
              have f719 := f718.keep K507 all0
              have f720 := f719.keep K509 all0
              have f721 := f720.keep K622 all0
              have f722 := f721.keep K634 (allS (Or.inl (Nat.le_trans (Nat.le_trans (Nat.le_trans (Nat.le_trans K503.1 K505.1) K507.1) K509.1) G622)) all0)
              have f723 := f722.keep K637 all0
              have f724 := f723.keep K649 (allS (Or.inl (Nat.le_trans (Nat.le_trans (Nat.le_trans (Nat.le_trans (Nat.le_trans (Nat.le_trans K503.1 K505.1) K507.1) K509.1) K622.1) K634.1) G637)) all0)
              have f725 := f504.keep K505 all0
              have f726 := f725.keep K507 all0
              have f727 := f726.keep K509 all0
              have f728 := f727.keep K622 all0
              have f729 := f728.keep K634 (allS (Or.inl (Nat.le_trans (Nat.le_trans (Nat.le_trans K505.1 K507.1) K509.1) G622)) all0)
              have f730 := f729.keep K637 all0
              have f731 := f730.keep K649 (allS (Or.inl (Nat.le_trans (Nat.le_trans (Nat.le_trans (Nat.le_trans (Nat.le_trans K505.1 K507.1) K509.1) K622.1) K634.1) G637)) all0)
              refine own_virt X649 224 (a := b622) (argsL := [(.ref b622)]) (rest := []) at_221 f712 (fun _ hZ => notFace_of_selects (args := #[]) (mvT hZ (hw _ (List.mem_of_getElem? (i := 73) rfl)))) (rm_eqK l Z a0 hw n0 h649 hWd [] X649.old b622 b622 r501 r503 r501 r503 (own_mk k1) (own_mk u1) (own_mk k1) (own_mk u1) f712 f714 f716 f714 f716 f724.top f731.top f724.top f731.top ) (hw _ (List.mem_of_getElem? (i := 70) rfl)) (hw _ (List.mem_of_getElem? (i := 71) rfl)) (hw _ (List.mem_of_getElem? (i := 73) rfl)) (hw _ (List.mem_of_getElem? (i := 72) rfl)) (hw _ (List.mem_of_getElem? (i := 56) rfl)) (hw _ (List.mem_of_getElem? (i := 74) rfl)) (by decide) (lenOf pd__28Ljava_2flang_2fObject_3b_29Z rfl) rfl rfl rfl (W := 0) rfl (by decide) (by decide) (by decide) (by decide) all0 rfl ?_
              intro T732 h732 v732 X732 K732 hQ732
              obtain rfl := hQ732
              show OGo _ _ _ _ T732 (mkF m 224 #[.val (.int k1), .val (.int u1), .val (.int k2), .val (.int u2), .val (.int pm), .val (.int (0 : Int32)), .val (.int (1 : Int32)), .val (.int ((XT.ushr pm (2 : Int32)) &&& (3 : Int32))), .val (.ref r501), .val (.ref r503), .val (.ref r505), .val (.ref r507), .val (.int (1 : Int32)), .val (.int (1 : Int32)), .val (.ref b622), .val (.ref b637), .val (.ref b622), .val (.int (1 : Int32)), .unset] [(.int (own_eq2 (own_mk k1) (own_mk u1) (own_mk k1) (own_mk u1)))])
              refine og_istore X732 226 #[.val (.int k1), .val (.int u1), .val (.int k2), .val (.int u2), .val (.int pm), .val (.int (0 : Int32)), .val (.int (1 : Int32)), .val (.int ((XT.ushr pm (2 : Int32)) &&& (3 : Int32))), .val (.ref r501), .val (.ref r503), .val (.ref r505), .val (.ref r507), .val (.int (1 : Int32)), .val (.int (1 : Int32)), .val (.ref b622), .val (.ref b637), .val (.ref b622), .val (.int (1 : Int32)), .val (.int (own_eq2 (own_mk k1) (own_mk u1) (own_mk k1) (own_mk u1)))] at_224 rfl rfl ?_
              refine og_iload X732 228 at_226 rfl rfl ?_
              refine og_ifY X732 256 at_228 (XT.i0_ne_t hc652) (by decide) (by decide) ?_
              refine og_iload X732 258 at_256 rfl rfl ?_
              refine og_iload X732 260 at_258 rfl rfl ?_
              refine og_icmpN X732 263 at_260 (XT.ii_ne_f (own_eq2_1 rfl rfl)) rfl ?_
              refine og_iconst X732 264 (1 : Int32) at_263 rfl rfl ?_
              refine og_goto X732 268 at_264 (by decide) (by decide) ?_
              refine own_retZ X732 at_268 hret rfl (by decide) (by decide) ?_
              exact rfl
  · -- not
    refine og_ifN X0 7 at_4 (XT.i0_eq_f hc1) rfl ?_
    refine og_iconst X0 8 (1 : Int32) at_7 rfl rfl ?_
    refine og_goto X0 12 at_8 (by decide) (by decide) ?_
    refine og_istore X0 14 #[.val (.int k1), .val (.int u1), .val (.int k2), .val (.int u2), .val (.int pm), .val (.int (1 : Int32)), .unset, .unset, .unset, .unset, .unset, .unset, .unset, .unset, .unset, .unset, .unset, .unset, .unset] at_12 rfl rfl ?_
    refine og_iload X0 16 at_14 rfl rfl ?_
    refine og_iconst X0 17 (2 : Int32) at_16 rfl rfl ?_
    refine og_iand X0 18 at_17 rfl ?_
    by_cases hc733 : (pm &&& (2 : Int32)) = 0
    · -- (pm &&& (2 : Int32)) = 0
      refine og_ifY X0 25 at_18 (XT.i0_eq_t hc733) (by decide) (by decide) ?_
      refine og_iconst X0 26 (0 : Int32) at_25 rfl rfl ?_
      refine og_istore X0 28 #[.val (.int k1), .val (.int u1), .val (.int k2), .val (.int u2), .val (.int pm), .val (.int (1 : Int32)), .val (.int (0 : Int32)), .unset, .unset, .unset, .unset, .unset, .unset, .unset, .unset, .unset, .unset, .unset, .unset] at_26 rfl rfl ?_
      refine og_iload X0 30 at_28 rfl rfl ?_
      refine og_iconst X0 31 (2 : Int32) at_30 rfl rfl ?_
      refine og_iushr X0 32 at_31 rfl ?_
      refine og_iconst X0 33 (3 : Int32) at_32 rfl rfl ?_
      refine og_iand X0 34 at_33 rfl ?_
      refine og_istore X0 36 #[.val (.int k1), .val (.int u1), .val (.int k2), .val (.int u2), .val (.int pm), .val (.int (1 : Int32)), .val (.int (0 : Int32)), .val (.int ((XT.ushr pm (2 : Int32)) &&& (3 : Int32))), .unset, .unset, .unset, .unset, .unset, .unset, .unset, .unset, .unset, .unset, .unset] at_34 rfl rfl ?_
      refine og_iloadN X0 37 at_36 rfl rfl ?_
      refine own_stat X0 40 (argsL := [(.int k1)]) (rest := []) at_37 (rm1 l Z a0 hw n0 h0 hWd [] X0.old k1  ) (hw _ (List.mem_of_getElem? (i := 0) rfl)) (hw _ (List.mem_of_getElem? (i := 1) rfl)) (hw _ (List.mem_of_getElem? (i := 2) rfl)) (hw _ (List.mem_of_getElem? (i := 3) rfl)) (by decide) (lenOf pd__28I_29Ljava_2flang_2fString_3b rfl) rfl rfl rfl (W := 0) rfl (by decide) (by decide) (by decide) (by decide) all0 rfl ?_
      intro T734 h734 v734 X734 K734 hQ734
      obtain ⟨r734, rfl, ge_r734, f735⟩ := hQ734
      show OGo _ _ _ _ T734 (mkF m 40 #[.val (.int k1), .val (.int u1), .val (.int k2), .val (.int u2), .val (.int pm), .val (.int (1 : Int32)), .val (.int (0 : Int32)), .val (.int ((XT.ushr pm (2 : Int32)) &&& (3 : Int32))), .unset, .unset, .unset, .unset, .unset, .unset, .unset, .unset, .unset, .unset, .unset] [(.ref r734)])
      refine og_astore X734 42 #[.val (.int k1), .val (.int u1), .val (.int k2), .val (.int u2), .val (.int pm), .val (.int (1 : Int32)), .val (.int (0 : Int32)), .val (.int ((XT.ushr pm (2 : Int32)) &&& (3 : Int32))), .val (.ref r734), .unset, .unset, .unset, .unset, .unset, .unset, .unset, .unset, .unset, .unset] at_40 rfl rfl rfl ?_
      refine og_iloadN X734 43 at_42 rfl rfl ?_
      refine own_stat X734 46 (argsL := [(.int u1)]) (rest := []) at_43 (rm1 l Z a0 hw n0 h734 hWd [] X734.old u1  ) (hw _ (List.mem_of_getElem? (i := 0) rfl)) (hw _ (List.mem_of_getElem? (i := 1) rfl)) (hw _ (List.mem_of_getElem? (i := 2) rfl)) (hw _ (List.mem_of_getElem? (i := 3) rfl)) (by decide) (lenOf pd__28I_29Ljava_2flang_2fString_3b rfl) rfl rfl rfl (W := 0) rfl (by decide) (by decide) (by decide) (by decide) all0 rfl ?_
      intro T736 h736 v736 X736 K736 hQ736
      obtain ⟨r736, rfl, ge_r736, f737⟩ := hQ736
      show OGo _ _ _ _ T736 (mkF m 46 #[.val (.int k1), .val (.int u1), .val (.int k2), .val (.int u2), .val (.int pm), .val (.int (1 : Int32)), .val (.int (0 : Int32)), .val (.int ((XT.ushr pm (2 : Int32)) &&& (3 : Int32))), .val (.ref r734), .unset, .unset, .unset, .unset, .unset, .unset, .unset, .unset, .unset, .unset] [(.ref r736)])
      refine og_astore X736 48 #[.val (.int k1), .val (.int u1), .val (.int k2), .val (.int u2), .val (.int pm), .val (.int (1 : Int32)), .val (.int (0 : Int32)), .val (.int ((XT.ushr pm (2 : Int32)) &&& (3 : Int32))), .val (.ref r734), .val (.ref r736), .unset, .unset, .unset, .unset, .unset, .unset, .unset, .unset, .unset] at_46 rfl rfl rfl ?_
      refine og_iload X736 50 at_48 rfl rfl ?_
      refine og_ifN X736 53 at_50 (XT.i0_eq_f (by decide)) rfl ?_
      refine og_iloadN X736 54 at_53 rfl rfl ?_
      refine own_stat X736 57 (argsL := [(.int k1)]) (rest := []) at_54 (rm1 l Z a0 hw n0 h736 hWd [] X736.old k1  ) (hw _ (List.mem_of_getElem? (i := 0) rfl)) (hw _ (List.mem_of_getElem? (i := 1) rfl)) (hw _ (List.mem_of_getElem? (i := 2) rfl)) (hw _ (List.mem_of_getElem? (i := 3) rfl)) (by decide) (lenOf pd__28I_29Ljava_2flang_2fString_3b rfl) rfl rfl rfl (W := 0) rfl (by decide) (by decide) (by decide) (by decide) all0 rfl ?_
      intro T738 h738 v738 X738 K738 hQ738
      obtain ⟨r738, rfl, ge_r738, f739⟩ := hQ738
      show OGo _ _ _ _ T738 (mkF m 57 #[.val (.int k1), .val (.int u1), .val (.int k2), .val (.int u2), .val (.int pm), .val (.int (1 : Int32)), .val (.int (0 : Int32)), .val (.int ((XT.ushr pm (2 : Int32)) &&& (3 : Int32))), .val (.ref r734), .val (.ref r736), .unset, .unset, .unset, .unset, .unset, .unset, .unset, .unset, .unset] [(.ref r738)])
      refine og_goto X738 64 at_57 (by decide) (by decide) ?_
      refine og_astore X738 66 #[.val (.int k1), .val (.int u1), .val (.int k2), .val (.int u2), .val (.int pm), .val (.int (1 : Int32)), .val (.int (0 : Int32)), .val (.int ((XT.ushr pm (2 : Int32)) &&& (3 : Int32))), .val (.ref r734), .val (.ref r736), .val (.ref r738), .unset, .unset, .unset, .unset, .unset, .unset, .unset, .unset] at_64 rfl rfl rfl ?_
      refine og_iload X738 68 at_66 rfl rfl ?_
      refine og_ifY X738 78 at_68 (XT.i0_eq_t (by decide)) (by decide) (by decide) ?_
      refine og_iloadN X738 79 at_78 rfl rfl ?_
      refine own_stat X738 82 (argsL := [(.int u2)]) (rest := []) at_79 (rm1 l Z a0 hw n0 h738 hWd [] X738.old u2  ) (hw _ (List.mem_of_getElem? (i := 0) rfl)) (hw _ (List.mem_of_getElem? (i := 1) rfl)) (hw _ (List.mem_of_getElem? (i := 2) rfl)) (hw _ (List.mem_of_getElem? (i := 3) rfl)) (by decide) (lenOf pd__28I_29Ljava_2flang_2fString_3b rfl) rfl rfl rfl (W := 0) rfl (by decide) (by decide) (by decide) (by decide) all0 rfl ?_
      intro T740 h740 v740 X740 K740 hQ740
      obtain ⟨r740, rfl, ge_r740, f741⟩ := hQ740
      show OGo _ _ _ _ T740 (mkF m 82 #[.val (.int k1), .val (.int u1), .val (.int k2), .val (.int u2), .val (.int pm), .val (.int (1 : Int32)), .val (.int (0 : Int32)), .val (.int ((XT.ushr pm (2 : Int32)) &&& (3 : Int32))), .val (.ref r734), .val (.ref r736), .val (.ref r738), .unset, .unset, .unset, .unset, .unset, .unset, .unset, .unset] [(.ref r740)])
      refine og_astore X740 84 #[.val (.int k1), .val (.int u1), .val (.int k2), .val (.int u2), .val (.int pm), .val (.int (1 : Int32)), .val (.int (0 : Int32)), .val (.int ((XT.ushr pm (2 : Int32)) &&& (3 : Int32))), .val (.ref r734), .val (.ref r736), .val (.ref r738), .val (.ref r740), .unset, .unset, .unset, .unset, .unset, .unset, .unset] at_82 rfl rfl rfl ?_
      refine og_iload X740 86 at_84 rfl rfl ?_
      refine og_ifY X740 97 at_86 (XT.i0_ne_t (by decide)) (by decide) (by decide) ?_
      refine og_iconst X740 98 (1 : Int32) at_97 rfl rfl ?_
      refine og_goto X740 102 at_98 (by decide) (by decide) ?_
      refine og_istore X740 104 #[.val (.int k1), .val (.int u1), .val (.int k2), .val (.int u2), .val (.int pm), .val (.int (1 : Int32)), .val (.int (0 : Int32)), .val (.int ((XT.ushr pm (2 : Int32)) &&& (3 : Int32))), .val (.ref r734), .val (.ref r736), .val (.ref r738), .val (.ref r740), .val (.int (1 : Int32)), .unset, .unset, .unset, .unset, .unset, .unset] at_102 rfl rfl ?_
      refine og_iload X740 106 at_104 rfl rfl ?_
      refine og_ifN X740 109 at_106 (XT.i0_ne_f (by decide)) rfl ?_
      refine og_iloadN X740 110 at_109 rfl rfl ?_
      refine og_iloadN X740 111 at_110 rfl rfl ?_
      refine own_stat X740 114 (argsL := [(.int u1), (.int u2)]) (rest := []) at_111 (rm12 l Z a0 hw n0 h740 hWd [] X740.old u1 u2  ) (hw _ (List.mem_of_getElem? (i := 51) rfl)) (hw _ (List.mem_of_getElem? (i := 52) rfl)) (hw _ (List.mem_of_getElem? (i := 2) rfl)) (hw _ (List.mem_of_getElem? (i := 53) rfl)) (by decide) (lenOf pd__28II_29Z rfl) rfl rfl rfl (W := 0) rfl (by decide) (by decide) (by decide) (by decide) all0 rfl ?_
      intro T742 h742 v742 X742 K742 hQ742
      obtain rfl := hQ742
      show OGo _ _ _ _ T742 (mkF m 114 #[.val (.int k1), .val (.int u1), .val (.int k2), .val (.int u2), .val (.int pm), .val (.int (1 : Int32)), .val (.int (0 : Int32)), .val (.int ((XT.ushr pm (2 : Int32)) &&& (3 : Int32))), .val (.ref r734), .val (.ref r736), .val (.ref r738), .val (.ref r740), .val (.int (1 : Int32)), .unset, .unset, .unset, .unset, .unset, .unset] [(.int (own_eqb (own_mk u1) (own_mk u2)))])
      by_cases hc743 : (own_eqb (own_mk u1) (own_mk u2)) = 0
      · -- (own_eqb (own_mk u1) (own_mk u2)) = 0
        refine og_ifY X742 121 at_114 (XT.i0_eq_t hc743) (by decide) (by decide) ?_
        refine og_iconst X742 122 (0 : Int32) at_121 rfl rfl ?_
        refine og_istore X742 124 #[.val (.int k1), .val (.int u1), .val (.int k2), .val (.int u2), .val (.int pm), .val (.int (1 : Int32)), .val (.int (0 : Int32)), .val (.int ((XT.ushr pm (2 : Int32)) &&& (3 : Int32))), .val (.ref r734), .val (.ref r736), .val (.ref r738), .val (.ref r740), .val (.int (1 : Int32)), .val (.int (0 : Int32)), .unset, .unset, .unset, .unset, .unset] at_122 rfl rfl ?_
        refine own_new X742 127 at_124 (hw _ (List.mem_of_getElem? (i := 54) rfl)) (hw _ (List.mem_of_getElem? (i := 55) rfl)) (hw _ (List.mem_of_getElem? (i := 56) rfl)) (by decide) (by decide) rfl ?_
        intro T744 h744 b744 X744 K744 G744 U744 E744 D744
        have f745 : Fld Z h744 b744 "com/example/chitragupta/chitragupta/model/HelpdeskSite" "kind" "Ljava/lang/String;" .null := D744 (Or.inr (hw _ (List.mem_of_getElem? (i := 67) rfl))) (ty := (.object "java/lang/String")) (by decide)
        have f746 : Fld Z h744 b744 "com/example/chitragupta/chitragupta/model/HelpdeskSite" "url" "Ljava/lang/String;" .null := D744 (Or.inr (hw _ (List.mem_of_getElem? (i := 69) rfl))) (ty := (.object "java/lang/String")) (by decide)
        refine og_dup X744 128 at_127 rfl rfl ?_
        refine og_aload X744 130 at_128 rfl rfl rfl ?_
        refine og_aload X744 132 at_130 rfl rfl rfl ?_
        have f747 := f735.exa.keep K736
        have f748 := f747.keep K738
        have f749 := f748.keep K740
        have f750 := f749.keep K742
        have f751 := f750.keep K744
        have f752 := f737.exa.keep K738
        have f753 := f752.keep K740
        have f754 := f753.keep K742
        have f755 := f754.keep K744
        refine own_spec X744 135 (a := b744) (argsL := [(.ref r734), (.ref r736)]) (rest := [(.ref b744)]) at_132 rfl (rm13 l Z a0 hw n0 h744 hWd [] X744.old b744 r734 r736 E744 f745 f746 f751 f755 (own_svb X744 (List.mem_of_getElem? (i := 0) rfl))) (hw _ (List.mem_of_getElem? (i := 57) rfl)) (hw _ (List.mem_of_getElem? (i := 58) rfl)) (hw _ (List.mem_of_getElem? (i := 56) rfl)) (hw _ (List.mem_of_getElem? (i := 59) rfl)) (by decide) (lenOf pd__28Ljava_2flang_2fString_3bLjava_2flang_2fString_3b_29V rfl) rfl rfl rfl (W := 1) rfl (by decide) (by decide) (by decide) (by decide) (allS (List.mem_of_getElem? (i := 0) rfl) all0) rfl ?_
        intro T756 h756 v756 X756 K756 hQ756
        obtain ⟨rfl, f757, f758⟩ := hQ756
        show OGo _ _ _ _ T756 (mkF m 135 #[.val (.int k1), .val (.int u1), .val (.int k2), .val (.int u2), .val (.int pm), .val (.int (1 : Int32)), .val (.int (0 : Int32)), .val (.int ((XT.ushr pm (2 : Int32)) &&& (3 : Int32))), .val (.ref r734), .val (.ref r736), .val (.ref r738), .val (.ref r740), .val (.int (1 : Int32)), .val (.int (0 : Int32)), .unset, .unset, .unset, .unset, .unset] [(.ref b744)])
        refine og_astore X756 137 #[.val (.int k1), .val (.int u1), .val (.int k2), .val (.int u2), .val (.int pm), .val (.int (1 : Int32)), .val (.int (0 : Int32)), .val (.int ((XT.ushr pm (2 : Int32)) &&& (3 : Int32))), .val (.ref r734), .val (.ref r736), .val (.ref r738), .val (.ref r740), .val (.int (1 : Int32)), .val (.int (0 : Int32)), .val (.ref b744), .unset, .unset, .unset, .unset] at_135 rfl rfl rfl ?_
        refine own_new X756 140 at_137 (hw _ (List.mem_of_getElem? (i := 54) rfl)) (hw _ (List.mem_of_getElem? (i := 55) rfl)) (hw _ (List.mem_of_getElem? (i := 56) rfl)) (by decide) (by decide) rfl ?_
        intro T759 h759 b759 X759 K759 G759 U759 E759 D759
        have f760 : Fld Z h759 b759 "com/example/chitragupta/chitragupta/model/HelpdeskSite" "kind" "Ljava/lang/String;" .null := D759 (Or.inr (hw _ (List.mem_of_getElem? (i := 67) rfl))) (ty := (.object "java/lang/String")) (by decide)
        have f761 : Fld Z h759 b759 "com/example/chitragupta/chitragupta/model/HelpdeskSite" "url" "Ljava/lang/String;" .null := D759 (Or.inr (hw _ (List.mem_of_getElem? (i := 69) rfl))) (ty := (.object "java/lang/String")) (by decide)
        refine og_dup X759 141 at_140 rfl rfl ?_
        refine og_aload X759 143 at_141 rfl rfl rfl ?_
        refine og_aload X759 145 at_143 rfl rfl rfl ?_
        have f762 := f739.exa.keep K740
        have f763 := f762.keep K742
        have f764 := f763.keep K744
        have f765 := f764.keep K756
        have f766 := f765.keep K759
        have f767 := f741.exa.keep K742
        have f768 := f767.keep K744
        have f769 := f768.keep K756
        have f770 := f769.keep K759
        refine own_spec X759 148 (a := b759) (argsL := [(.ref r738), (.ref r740)]) (rest := [(.ref b759)]) at_145 rfl (rm13 l Z a0 hw n0 h759 hWd [] X759.old b759 r738 r740 E759 f760 f761 f766 f770 (own_svb X759 (List.mem_of_getElem? (i := 0) rfl))) (hw _ (List.mem_of_getElem? (i := 57) rfl)) (hw _ (List.mem_of_getElem? (i := 58) rfl)) (hw _ (List.mem_of_getElem? (i := 56) rfl)) (hw _ (List.mem_of_getElem? (i := 59) rfl)) (by decide) (lenOf pd__28Ljava_2flang_2fString_3bLjava_2flang_2fString_3b_29V rfl) rfl rfl rfl (W := 1) rfl (by decide) (by decide) (by decide) (by decide) (allS (List.mem_of_getElem? (i := 0) rfl) all0) rfl ?_
        intro T771 h771 v771 X771 K771 hQ771
        obtain ⟨rfl, f772, f773⟩ := hQ771
        show OGo _ _ _ _ T771 (mkF m 148 #[.val (.int k1), .val (.int u1), .val (.int k2), .val (.int u2), .val (.int pm), .val (.int (1 : Int32)), .val (.int (0 : Int32)), .val (.int ((XT.ushr pm (2 : Int32)) &&& (3 : Int32))), .val (.ref r734), .val (.ref r736), .val (.ref r738), .val (.ref r740), .val (.int (1 : Int32)), .val (.int (0 : Int32)), .val (.ref b744), .unset, .unset, .unset, .unset] [(.ref b759)])
        refine og_astore X771 150 #[.val (.int k1), .val (.int u1), .val (.int k2), .val (.int u2), .val (.int pm), .val (.int (1 : Int32)), .val (.int (0 : Int32)), .val (.int ((XT.ushr pm (2 : Int32)) &&& (3 : Int32))), .val (.ref r734), .val (.ref r736), .val (.ref r738), .val (.ref r740), .val (.int (1 : Int32)), .val (.int (0 : Int32)), .val (.ref b744), .val (.ref b759), .unset, .unset, .unset] at_148 rfl rfl rfl ?_
        refine og_iload X771 152 at_150 rfl rfl ?_
        by_cases hc774 : ((XT.ushr pm (2 : Int32)) &&& (3 : Int32)) = 0
        · -- ((XT.ushr pm (2 : Int32)) &&& (3 : Int32)) = 0
          refine og_ifN X771 155 at_152 (XT.i0_ne_f hc774) rfl ?_
          refine og_aload X771 157 at_155 rfl rfl rfl ?_
          refine og_astore X771 159 #[.val (.int k1), .val (.int u1), .val (.int k2), .val (.int u2), .val (.int pm), .val (.int (1 : Int32)), .val (.int (0 : Int32)), .val (.int ((XT.ushr pm (2 : Int32)) &&& (3 : Int32))), .val (.ref r734), .val (.ref r736), .val (.ref r738), .val (.ref r740), .val (.int (1 : Int32)), .val (.int (0 : Int32)), .val (.ref b744), .val (.ref b759), .val (.ref b759), .unset, .unset] at_157 rfl rfl rfl ?_
          refine og_iload X771 161 at_159 rfl rfl ?_
          refine og_ifN X771 164 at_161 (XT.i0_eq_f (by decide)) rfl ?_
          refine og_iload X771 166 at_164 rfl rfl ?_
          refine og_ifY X771 173 at_166 (XT.i0_eq_t (by decide)) (by decide) (by decide) ?_
          refine og_iconst X771 174 (0 : Int32) at_173 rfl rfl ?_
          refine og_istore X771 176 #[.val (.int k1), .val (.int u1), .val (.int k2), .val (.int u2), .val (.int pm), .val (.int (1 : Int32)), .val (.int (0 : Int32)), .val (.int ((XT.ushr pm (2 : Int32)) &&& (3 : Int32))), .val (.ref r734), .val (.ref r736), .val (.ref r738), .val (.ref r740), .val (.int (1 : Int32)), .val (.int (0 : Int32)), .val (.ref b744), .val (.ref b759), .val (.ref b759), .val (.int (0 : Int32)), .unset] at_174 rfl rfl ?_
          refine og_goto X771 217 at_176 (by decide) (by decide) ?_
          refine og_aload X771 219 at_217 rfl rfl rfl ?_
          refine og_aload X771 221 at_219 rfl rfl rfl ?_
          have f775 := E744.keep K756
          have f776 := f775.keep K759
          have f777 := f776.keep K771
          have f778 := E759.keep K771
          have f779 := f757.keep K759 nin0
          have f780 := f779.keep K771 (ninS (Nat.ne_of_lt (Nat.lt_of_lt_of_le (Nat.lt_of_lt_of_le U744 K756.1) G759)) nin0)
          have f781 := f758.keep K759 nin0
          have f782 := f781.keep K771 (ninS (Nat.ne_of_lt (Nat.lt_of_lt_of_le (Nat.lt_of_lt_of_le U744 K756.1) G759)) nin0)
          have f783 := f735.keep K736 all0
          have f784 := f783.keep K738 all0
          have f785 := f784.keep K740 all0
          have f786 := f785.keep K742 all0
          have f787 := f786.keep K744 all0
          have f788 := f787.keep K756 (allS (Or.inl (Nat.le_trans (Nat.le_trans (Nat.le_trans (Nat.le_trans K736.1 K738.1) K740.1) K742.1) G744)) all0)
          have f789 := f788.keep K759 all0
          have f790 := f789.keep K771 (allS (Or.inl (Nat.le_trans (Nat.le_trans (Nat.le_trans (Nat.le_trans (Nat.le_trans (Nat.le_trans K736.1 K738.1) K740.1) K742.1) K744.1) K756.1) G759)) all0)
          have f791 := f737.keep K738 all0
          have f792 := f791.keep K740 all0
          have f793 := f792.keep K742 all0
          have f794 := f793.keep K744 all0
          have f795 := f794.keep K756 (allS (Or.inl (Nat.le_trans (Nat.le_trans (Nat.le_trans K738.1 K740.1) K742.1) G744)) all0)
          have f796 := f795.keep K759 all0
          have f797 := f796.keep K771 (allS (Or.inl (Nat.le_trans (Nat.le_trans (Nat.le_trans (Nat.le_trans (Nat.le_trans K738.1 K740.1) K742.1) K744.1) K756.1) G759)) all0)
          have f798 := f739.keep K740 all0
          have f799 := f798.keep K742 all0
          have f800 := f799.keep K744 all0
          have f801 := f800.keep K756 (allS (Or.inl (Nat.le_trans (Nat.le_trans K740.1 K742.1) G744)) all0)
          have f802 := f801.keep K759 all0
          have f803 := f802.keep K771 (allS (Or.inl (Nat.le_trans (Nat.le_trans (Nat.le_trans (Nat.le_trans K740.1 K742.1) K744.1) K756.1) G759)) all0)
          have f804 := f741.keep K742 all0
          have f805 := f804.keep K744 all0
          have f806 := f805.keep K756 (allS (Or.inl (Nat.le_trans K742.1 G744)) all0)
          have f807 := f806.keep K759 all0
          have f808 := f807.keep K771 (allS (Or.inl (Nat.le_trans (Nat.le_trans (Nat.le_trans K742.1 K744.1) K756.1) G759)) all0)
          refine own_virt X771 224 (a := b744) (argsL := [(.ref b759)]) (rest := []) at_221 f777 (fun _ hZ => notFace_of_selects (args := #[]) (mvT hZ (hw _ (List.mem_of_getElem? (i := 73) rfl)))) (rm_eqK l Z a0 hw n0 h771 hWd [] X771.old b744 b759 r734 r736 r738 r740 (own_mk k1) (own_mk u1) (own_mk k1) (own_mk u2) f778 f780 f782 f772 f773 f790.top f797.top f803.top f808.top ) (hw _ (List.mem_of_getElem? (i := 70) rfl)) (hw _ (List.mem_of_getElem? (i := 71) rfl)) (hw _ (List.mem_of_getElem? (i := 73) rfl)) (hw _ (List.mem_of_getElem? (i := 72) rfl)) (hw _ (List.mem_of_getElem? (i := 56) rfl)) (hw _ (List.mem_of_getElem? (i := 74) rfl)) (by decide) (lenOf pd__28Ljava_2flang_2fObject_3b_29Z rfl) rfl rfl rfl (W := 0) rfl (by decide) (by decide) (by decide) (by decide) all0 rfl ?_
          intro T809 h809 v809 X809 K809 hQ809
          obtain rfl := hQ809
          show OGo _ _ _ _ T809 (mkF m 224 #[.val (.int k1), .val (.int u1), .val (.int k2), .val (.int u2), .val (.int pm), .val (.int (1 : Int32)), .val (.int (0 : Int32)), .val (.int ((XT.ushr pm (2 : Int32)) &&& (3 : Int32))), .val (.ref r734), .val (.ref r736), .val (.ref r738), .val (.ref r740), .val (.int (1 : Int32)), .val (.int (0 : Int32)), .val (.ref b744), .val (.ref b759), .val (.ref b759), .val (.int (0 : Int32)), .unset] [(.int (own_eq2 (own_mk k1) (own_mk u1) (own_mk k1) (own_mk u2)))])
          refine og_istore X809 226 #[.val (.int k1), .val (.int u1), .val (.int k2), .val (.int u2), .val (.int pm), .val (.int (1 : Int32)), .val (.int (0 : Int32)), .val (.int ((XT.ushr pm (2 : Int32)) &&& (3 : Int32))), .val (.ref r734), .val (.ref r736), .val (.ref r738), .val (.ref r740), .val (.int (1 : Int32)), .val (.int (0 : Int32)), .val (.ref b744), .val (.ref b759), .val (.ref b759), .val (.int (0 : Int32)), .val (.int (own_eq2 (own_mk k1) (own_mk u1) (own_mk k1) (own_mk u2)))] at_224 rfl rfl ?_
          refine og_iload X809 228 at_226 rfl rfl ?_
          refine og_ifN X809 231 at_228 (XT.i0_ne_f hc774) rfl ?_
          refine og_iload X809 233 at_231 rfl rfl ?_
          refine og_iload X809 235 at_233 rfl rfl ?_
          refine og_icmpN X809 238 at_235 (XT.ii_ne_f (own_eq2_0 fun q => (own_eqb0.mp hc743) q.2)) rfl ?_
          refine og_aload X809 240 at_238 rfl rfl rfl ?_
          refine og_aload X809 242 at_240 rfl rfl rfl ?_
          have f810 := f778.keep K809
          have f811 := f777.keep K809
          have f812 := f772.keep K809 nin0
          have f813 := f773.keep K809 nin0
          have f814 := f780.keep K809 nin0
          have f815 := f782.keep K809 nin0
          have f816 := f803.keep K809 all0
          have f817 := f808.keep K809 all0
          have f818 := f790.keep K809 all0
          have f819 := f797.keep K809 all0
          refine own_virt X809 245 (a := b759) (argsL := [(.ref b744)]) (rest := []) at_242 f810 (fun _ hZ => notFace_of_selects (args := #[]) (mvT hZ (hw _ (List.mem_of_getElem? (i := 73) rfl)))) (rm_eqK l Z a0 hw n0 h809 hWd [] X809.old b759 b744 r738 r740 r734 r736 (own_mk k1) (own_mk u2) (own_mk k1) (own_mk u1) f811 f812 f813 f814 f815 f816.top f817.top f818.top f819.top ) (hw _ (List.mem_of_getElem? (i := 70) rfl)) (hw _ (List.mem_of_getElem? (i := 71) rfl)) (hw _ (List.mem_of_getElem? (i := 73) rfl)) (hw _ (List.mem_of_getElem? (i := 72) rfl)) (hw _ (List.mem_of_getElem? (i := 56) rfl)) (hw _ (List.mem_of_getElem? (i := 74) rfl)) (by decide) (lenOf pd__28Ljava_2flang_2fObject_3b_29Z rfl) rfl rfl rfl (W := 0) rfl (by decide) (by decide) (by decide) (by decide) all0 rfl ?_
          intro T820 h820 v820 X820 K820 hQ820
          obtain rfl := hQ820
          show OGo _ _ _ _ T820 (mkF m 245 #[.val (.int k1), .val (.int u1), .val (.int k2), .val (.int u2), .val (.int pm), .val (.int (1 : Int32)), .val (.int (0 : Int32)), .val (.int ((XT.ushr pm (2 : Int32)) &&& (3 : Int32))), .val (.ref r734), .val (.ref r736), .val (.ref r738), .val (.ref r740), .val (.int (1 : Int32)), .val (.int (0 : Int32)), .val (.ref b744), .val (.ref b759), .val (.ref b759), .val (.int (0 : Int32)), .val (.int (own_eq2 (own_mk k1) (own_mk u1) (own_mk k1) (own_mk u2)))] [(.int (own_eq2 (own_mk k1) (own_mk u2) (own_mk k1) (own_mk u1)))])
          refine og_iload X820 247 at_245 rfl rfl ?_
          refine og_icmpN X820 250 at_247 (XT.ii_ne_f (own_eq2_0 fun q => (fun z => own_eqb0.mp hc743 z.symm) q.2)) rfl ?_
          refine og_iconst X820 251 (1 : Int32) at_250 rfl rfl ?_
          refine og_goto X820 255 at_251 (by decide) (by decide) ?_
          refine own_retZ X820 at_255 hret rfl (by decide) (by decide) ?_
          exact rfl
        · -- not
          refine og_ifY X771 179 at_152 (XT.i0_ne_t hc774) (by decide) (by decide) ?_
          refine og_iload X771 181 at_179 rfl rfl ?_
          refine og_iconst X771 182 (1 : Int32) at_181 rfl rfl ?_
          by_cases hc821 : ((XT.ushr pm (2 : Int32)) &&& (3 : Int32)) = (1 : Int32)
          · -- ((XT.ushr pm (2 : Int32)) &&& (3 : Int32)) = (1 : Int32)
            refine og_icmpN X771 185 at_182 (XT.ii_ne_f hc821) rfl ?_
            refine og_aconstNull X771 186 at_185 rfl ?_
            refine og_astore X771 188 #[.val (.int k1), .val (.int u1), .val (.int k2), .val (.int u2), .val (.int pm), .val (.int (1 : Int32)), .val (.int (0 : Int32)), .val (.int ((XT.ushr pm (2 : Int32)) &&& (3 : Int32))), .val (.ref r734), .val (.ref r736), .val (.ref r738), .val (.ref r740), .val (.int (1 : Int32)), .val (.int (0 : Int32)), .val (.ref b744), .val (.ref b759), .val .null, .unset, .unset] at_186 rfl rfl rfl ?_
            refine og_iconst X771 189 (0 : Int32) at_188 rfl rfl ?_
            refine og_istore X771 191 #[.val (.int k1), .val (.int u1), .val (.int k2), .val (.int u2), .val (.int pm), .val (.int (1 : Int32)), .val (.int (0 : Int32)), .val (.int ((XT.ushr pm (2 : Int32)) &&& (3 : Int32))), .val (.ref r734), .val (.ref r736), .val (.ref r738), .val (.ref r740), .val (.int (1 : Int32)), .val (.int (0 : Int32)), .val (.ref b744), .val (.ref b759), .val .null, .val (.int (0 : Int32)), .unset] at_189 rfl rfl ?_
            refine og_goto X771 217 at_191 (by decide) (by decide) ?_
            refine og_aload X771 219 at_217 rfl rfl rfl ?_
            refine og_aload X771 221 at_219 rfl rfl rfl ?_
            have f822 := E744.keep K756
            have f823 := f822.keep K759
            have f824 := f823.keep K771
            refine own_virt X771 224 (a := b744) (argsL := [.null]) (rest := []) at_221 f824 (fun _ hZ => notFace_of_selects (args := #[]) (mvT hZ (hw _ (List.mem_of_getElem? (i := 73) rfl)))) (rm_eqN l Z a0 hw n0 h771 hWd [] X771.old b744  ) (hw _ (List.mem_of_getElem? (i := 70) rfl)) (hw _ (List.mem_of_getElem? (i := 71) rfl)) (hw _ (List.mem_of_getElem? (i := 73) rfl)) (hw _ (List.mem_of_getElem? (i := 72) rfl)) (hw _ (List.mem_of_getElem? (i := 56) rfl)) (hw _ (List.mem_of_getElem? (i := 74) rfl)) (by decide) (lenOf pd__28Ljava_2flang_2fObject_3b_29Z rfl) rfl rfl rfl (W := 0) rfl (by decide) (by decide) (by decide) (by decide) all0 rfl ?_
            intro T825 h825 v825 X825 K825 hQ825
            obtain rfl := hQ825
            show OGo _ _ _ _ T825 (mkF m 224 #[.val (.int k1), .val (.int u1), .val (.int k2), .val (.int u2), .val (.int pm), .val (.int (1 : Int32)), .val (.int (0 : Int32)), .val (.int ((XT.ushr pm (2 : Int32)) &&& (3 : Int32))), .val (.ref r734), .val (.ref r736), .val (.ref r738), .val (.ref r740), .val (.int (1 : Int32)), .val (.int (0 : Int32)), .val (.ref b744), .val (.ref b759), .val .null, .val (.int (0 : Int32)), .unset] [(.int (0 : Int32))])
            refine og_istore X825 226 #[.val (.int k1), .val (.int u1), .val (.int k2), .val (.int u2), .val (.int pm), .val (.int (1 : Int32)), .val (.int (0 : Int32)), .val (.int ((XT.ushr pm (2 : Int32)) &&& (3 : Int32))), .val (.ref r734), .val (.ref r736), .val (.ref r738), .val (.ref r740), .val (.int (1 : Int32)), .val (.int (0 : Int32)), .val (.ref b744), .val (.ref b759), .val .null, .val (.int (0 : Int32)), .val (.int (0 : Int32))] at_224 rfl rfl ?_
            refine og_iload X825 228 at_226 rfl rfl ?_
            refine og_ifY X825 256 at_228 (XT.i0_ne_t hc774) (by decide) (by decide) ?_
            refine og_iload X825 258 at_256 rfl rfl ?_
            refine og_iload X825 260 at_258 rfl rfl ?_
            refine og_icmpN X825 263 at_260 (XT.ii_ne_f (by decide)) rfl ?_
            refine og_iconst X825 264 (1 : Int32) at_263 rfl rfl ?_
            refine og_goto X825 268 at_264 (by decide) (by decide) ?_
            refine own_retZ X825 at_268 hret rfl (by decide) (by decide) ?_
            exact rfl
          · -- not
            refine og_icmpY X771 194 at_182 (XT.ii_ne_t hc821) (by decide) (by decide) ?_
            refine og_iload X771 196 at_194 rfl rfl ?_
            refine og_iconst X771 197 (2 : Int32) at_196 rfl rfl ?_
            by_cases hc826 : ((XT.ushr pm (2 : Int32)) &&& (3 : Int32)) = (2 : Int32)
            · -- ((XT.ushr pm (2 : Int32)) &&& (3 : Int32)) = (2 : Int32)
              refine og_icmpN X771 200 at_197 (XT.ii_ne_f hc826) rfl ?_
              refine og_aload X771 202 at_200 rfl rfl rfl ?_
              refine og_astore X771 204 #[.val (.int k1), .val (.int u1), .val (.int k2), .val (.int u2), .val (.int pm), .val (.int (1 : Int32)), .val (.int (0 : Int32)), .val (.int ((XT.ushr pm (2 : Int32)) &&& (3 : Int32))), .val (.ref r734), .val (.ref r736), .val (.ref r738), .val (.ref r740), .val (.int (1 : Int32)), .val (.int (0 : Int32)), .val (.ref b744), .val (.ref b759), .val (.ref r738), .unset, .unset] at_202 rfl rfl rfl ?_
              refine og_iconst X771 205 (0 : Int32) at_204 rfl rfl ?_
              refine og_istore X771 207 #[.val (.int k1), .val (.int u1), .val (.int k2), .val (.int u2), .val (.int pm), .val (.int (1 : Int32)), .val (.int (0 : Int32)), .val (.int ((XT.ushr pm (2 : Int32)) &&& (3 : Int32))), .val (.ref r734), .val (.ref r736), .val (.ref r738), .val (.ref r740), .val (.int (1 : Int32)), .val (.int (0 : Int32)), .val (.ref b744), .val (.ref b759), .val (.ref r738), .val (.int (0 : Int32)), .unset] at_205 rfl rfl ?_
              refine og_goto X771 217 at_207 (by decide) (by decide) ?_
              refine og_aload X771 219 at_217 rfl rfl rfl ?_
              refine og_aload X771 221 at_219 rfl rfl rfl ?_
              have f827 := E744.keep K756
              have f828 := f827.keep K759
              have f829 := f828.keep K771
              have f830 := f766.keep K771
              refine own_virt X771 224 (a := b744) (argsL := [(.ref r738)]) (rest := []) at_221 f829 (fun _ hZ => notFace_of_selects (args := #[]) (mvT hZ (hw _ (List.mem_of_getElem? (i := 73) rfl)))) (rm_eqS l Z a0 hw n0 h771 hWd [] X771.old b744 r738 f830 ) (hw _ (List.mem_of_getElem? (i := 70) rfl)) (hw _ (List.mem_of_getElem? (i := 71) rfl)) (hw _ (List.mem_of_getElem? (i := 73) rfl)) (hw _ (List.mem_of_getElem? (i := 72) rfl)) (hw _ (List.mem_of_getElem? (i := 56) rfl)) (hw _ (List.mem_of_getElem? (i := 74) rfl)) (by decide) (lenOf pd__28Ljava_2flang_2fObject_3b_29Z rfl) rfl rfl rfl (W := 0) rfl (by decide) (by decide) (by decide) (by decide) all0 rfl ?_
              intro T831 h831 v831 X831 K831 hQ831
              obtain rfl := hQ831
              show OGo _ _ _ _ T831 (mkF m 224 #[.val (.int k1), .val (.int u1), .val (.int k2), .val (.int u2), .val (.int pm), .val (.int (1 : Int32)), .val (.int (0 : Int32)), .val (.int ((XT.ushr pm (2 : Int32)) &&& (3 : Int32))), .val (.ref r734), .val (.ref r736), .val (.ref r738), .val (.ref r740), .val (.int (1 : Int32)), .val (.int (0 : Int32)), .val (.ref b744), .val (.ref b759), .val (.ref r738), .val (.int (0 : Int32)), .unset] [(.int (0 : Int32))])
              refine og_istore X831 226 #[.val (.int k1), .val (.int u1), .val (.int k2), .val (.int u2), .val (.int pm), .val (.int (1 : Int32)), .val (.int (0 : Int32)), .val (.int ((XT.ushr pm (2 : Int32)) &&& (3 : Int32))), .val (.ref r734), .val (.ref r736), .val (.ref r738), .val (.ref r740), .val (.int (1 : Int32)), .val (.int (0 : Int32)), .val (.ref b744), .val (.ref b759), .val (.ref r738), .val (.int (0 : Int32)), .val (.int (0 : Int32))] at_224 rfl rfl ?_
              refine og_iload X831 228 at_226 rfl rfl ?_
              refine og_ifY X831 256 at_228 (XT.i0_ne_t hc774) (by decide) (by decide) ?_
              refine og_iload X831 258 at_256 rfl rfl ?_
              refine og_iload X831 260 at_258 rfl rfl ?_
              refine og_icmpN X831 263 at_260 (XT.ii_ne_f (by decide)) rfl ?_
              refine og_iconst X831 264 (1 : Int32) at_263 rfl rfl ?_
              refine og_goto X831 268 at_264 (by decide) (by decide) ?_
              refine own_retZ X831 at_268 hret rfl (by decide) (by decide) ?_
              exact rfl
            · -- not
              refine og_icmpY X771 210 at_197 (XT.ii_ne_t hc826) (by decide) (by decide) ?_
              refine og_aload X771 212 at_210 rfl rfl rfl ?_
              refine og_astore X771 214 #[.val (.int k1), .val (.int u1), .val (.int k2), .val (.int u2), .val (.int pm), .val (.int (1 : Int32)), .val (.int (0 : Int32)), .val (.int ((XT.ushr pm (2 : Int32)) &&& (3 : Int32))), .val (.ref r734), .val (.ref r736), .val (.ref r738), .val (.ref r740), .val (.int (1 : Int32)), .val (.int (0 : Int32)), .val (.ref b744), .val (.ref b759), .val (.ref b744), .unset, .unset] at_212 rfl rfl rfl ?_
              refine og_iconst X771 215 (1 : Int32) at_214 rfl rfl ?_
              refine og_istore X771 217 #[.val (.int k1), .val (.int u1), .val (.int k2), .val (.int u2), .val (.int pm), .val (.int (1 : Int32)), .val (.int (0 : Int32)), .val (.int ((XT.ushr pm (2 : Int32)) &&& (3 : Int32))), .val (.ref r734), .val (.ref r736), .val (.ref r738), .val (.ref r740), .val (.int (1 : Int32)), .val (.int (0 : Int32)), .val (.ref b744), .val (.ref b759), .val (.ref b744), .val (.int (1 : Int32)), .unset] at_215 rfl rfl ?_
              refine og_aload X771 219 at_217 rfl rfl rfl ?_
              refine og_aload X771 221 at_219 rfl rfl rfl ?_
              have f832 := E744.keep K756
              have f833 := f832.keep K759
              have f834 := f833.keep K771
              have f835 := f757.keep K759 nin0
              have f836 := f835.keep K771 (ninS (Nat.ne_of_lt (Nat.lt_of_lt_of_le (Nat.lt_of_lt_of_le U744 K756.1) G759)) nin0)
              have f837 := f758.keep K759 nin0
              have f838 := f837.keep K771 (ninS (Nat.ne_of_lt (Nat.lt_of_lt_of_le (Nat.lt_of_lt_of_le U744 K756.1) G759)) nin0)
              have f839 := f735.keep K736 all0
              have f840 := f839.keep K738 all0
              have f841 := f840.keep K740 all0
              have f842 := f841.keep K742 all0
              have f843 := f842.keep K744 all0
              have f844 := f843.keep K756 (allS (Or.inl (Nat.le_trans (Nat.le_trans (Nat.le_trans (Nat.le_trans K736.1 K738.1) K740.1) K742.1) G744)) all0)
              have f845 := f844.keep K759 all0
              have f846 := f845.keep K771 (allS (Or.inl (Nat.le_trans (Nat.le_trans (Nat.le_trans (Nat.le_trans (Nat.le_trans (Nat.le_trans K736.1 K738.1) K740.1) K742.1) K744.1) K756.1) G759)) all0)
              have f847 := f737.keep K738 all0
              have f848 := f847.keep K740 all0
              have f849 := f848.keep K742 all0
              have f850 := f849.keep K744 all0
              have f851 := f850.keep K756 (allS (Or.inl (Nat.le_trans (Nat.le_trans (Nat.le_trans K738.1 K740.1) K742.1) G744)) all0)
              have f852 := f851.keep K759 all0
              have f853 := f852.keep K771 (allS (Or.inl (Nat.le_trans (Nat.le_trans (Nat.le_trans (Nat.le_trans (Nat.le_trans K738.1 K740.1) K742.1) K744.1) K756.1) G759)) all0)
              refine own_virt X771 224 (a := b744) (argsL := [(.ref b744)]) (rest := []) at_221 f834 (fun _ hZ => notFace_of_selects (args := #[]) (mvT hZ (hw _ (List.mem_of_getElem? (i := 73) rfl)))) (rm_eqK l Z a0 hw n0 h771 hWd [] X771.old b744 b744 r734 r736 r734 r736 (own_mk k1) (own_mk u1) (own_mk k1) (own_mk u1) f834 f836 f838 f836 f838 f846.top f853.top f846.top f853.top ) (hw _ (List.mem_of_getElem? (i := 70) rfl)) (hw _ (List.mem_of_getElem? (i := 71) rfl)) (hw _ (List.mem_of_getElem? (i := 73) rfl)) (hw _ (List.mem_of_getElem? (i := 72) rfl)) (hw _ (List.mem_of_getElem? (i := 56) rfl)) (hw _ (List.mem_of_getElem? (i := 74) rfl)) (by decide) (lenOf pd__28Ljava_2flang_2fObject_3b_29Z rfl) rfl rfl rfl (W := 0) rfl (by decide) (by decide) (by decide) (by decide) all0 rfl ?_
              intro T854 h854 v854 X854 K854 hQ854
              obtain rfl := hQ854
              show OGo _ _ _ _ T854 (mkF m 224 #[.val (.int k1), .val (.int u1), .val (.int k2), .val (.int u2), .val (.int pm), .val (.int (1 : Int32)), .val (.int (0 : Int32)), .val (.int ((XT.ushr pm (2 : Int32)) &&& (3 : Int32))), .val (.ref r734), .val (.ref r736), .val (.ref r738), .val (.ref r740), .val (.int (1 : Int32)), .val (.int (0 : Int32)), .val (.ref b744), .val (.ref b759), .val (.ref b744), .val (.int (1 : Int32)), .unset] [(.int (own_eq2 (own_mk k1) (own_mk u1) (own_mk k1) (own_mk u1)))])
              refine og_istore X854 226 #[.val (.int k1), .val (.int u1), .val (.int k2), .val (.int u2), .val (.int pm), .val (.int (1 : Int32)), .val (.int (0 : Int32)), .val (.int ((XT.ushr pm (2 : Int32)) &&& (3 : Int32))), .val (.ref r734), .val (.ref r736), .val (.ref r738), .val (.ref r740), .val (.int (1 : Int32)), .val (.int (0 : Int32)), .val (.ref b744), .val (.ref b759), .val (.ref b744), .val (.int (1 : Int32)), .val (.int (own_eq2 (own_mk k1) (own_mk u1) (own_mk k1) (own_mk u1)))] at_224 rfl rfl ?_
              refine og_iload X854 228 at_226 rfl rfl ?_
              refine og_ifY X854 256 at_228 (XT.i0_ne_t hc774) (by decide) (by decide) ?_
              refine og_iload X854 258 at_256 rfl rfl ?_
              refine og_iload X854 260 at_258 rfl rfl ?_
              refine og_icmpN X854 263 at_260 (XT.ii_ne_f (own_eq2_1 rfl rfl)) rfl ?_
              refine og_iconst X854 264 (1 : Int32) at_263 rfl rfl ?_
              refine og_goto X854 268 at_264 (by decide) (by decide) ?_
              refine own_retZ X854 at_268 hret rfl (by decide) (by decide) ?_
              exact rfl
      · -- not
        refine og_ifN X742 117 at_114 (XT.i0_eq_f hc743) rfl ?_
        refine og_iconst X742 118 (1 : Int32) at_117 rfl rfl ?_
        refine og_goto X742 122 at_118 (by decide) (by decide) ?_
        refine og_istore X742 124 #[.val (.int k1), .val (.int u1), .val (.int k2), .val (.int u2), .val (.int pm), .val (.int (1 : Int32)), .val (.int (0 : Int32)), .val (.int ((XT.ushr pm (2 : Int32)) &&& (3 : Int32))), .val (.ref r734), .val (.ref r736), .val (.ref r738), .val (.ref r740), .val (.int (1 : Int32)), .val (.int (1 : Int32)), .unset, .unset, .unset, .unset, .unset] at_122 rfl rfl ?_
        refine own_new X742 127 at_124 (hw _ (List.mem_of_getElem? (i := 54) rfl)) (hw _ (List.mem_of_getElem? (i := 55) rfl)) (hw _ (List.mem_of_getElem? (i := 56) rfl)) (by decide) (by decide) rfl ?_
        intro T855 h855 b855 X855 K855 G855 U855 E855 D855
        have f856 : Fld Z h855 b855 "com/example/chitragupta/chitragupta/model/HelpdeskSite" "kind" "Ljava/lang/String;" .null := D855 (Or.inr (hw _ (List.mem_of_getElem? (i := 67) rfl))) (ty := (.object "java/lang/String")) (by decide)
        have f857 : Fld Z h855 b855 "com/example/chitragupta/chitragupta/model/HelpdeskSite" "url" "Ljava/lang/String;" .null := D855 (Or.inr (hw _ (List.mem_of_getElem? (i := 69) rfl))) (ty := (.object "java/lang/String")) (by decide)
        refine og_dup X855 128 at_127 rfl rfl ?_
        refine og_aload X855 130 at_128 rfl rfl rfl ?_
        refine og_aload X855 132 at_130 rfl rfl rfl ?_
        have f858 := f735.exa.keep K736
        have f859 := f858.keep K738
        have f860 := f859.keep K740
        have f861 := f860.keep K742
        have f862 := f861.keep K855
        have f863 := f737.exa.keep K738
        have f864 := f863.keep K740
        have f865 := f864.keep K742
        have f866 := f865.keep K855
        refine own_spec X855 135 (a := b855) (argsL := [(.ref r734), (.ref r736)]) (rest := [(.ref b855)]) at_132 rfl (rm13 l Z a0 hw n0 h855 hWd [] X855.old b855 r734 r736 E855 f856 f857 f862 f866 (own_svb X855 (List.mem_of_getElem? (i := 0) rfl))) (hw _ (List.mem_of_getElem? (i := 57) rfl)) (hw _ (List.mem_of_getElem? (i := 58) rfl)) (hw _ (List.mem_of_getElem? (i := 56) rfl)) (hw _ (List.mem_of_getElem? (i := 59) rfl)) (by decide) (lenOf pd__28Ljava_2flang_2fString_3bLjava_2flang_2fString_3b_29V rfl) rfl rfl rfl (W := 1) rfl (by decide) (by decide) (by decide) (by decide) (allS (List.mem_of_getElem? (i := 0) rfl) all0) rfl ?_
        intro T867 h867 v867 X867 K867 hQ867
        obtain ⟨rfl, f868, f869⟩ := hQ867
        show OGo _ _ _ _ T867 (mkF m 135 #[.val (.int k1), .val (.int u1), .val (.int k2), .val (.int u2), .val (.int pm), .val (.int (1 : Int32)), .val (.int (0 : Int32)), .val (.int ((XT.ushr pm (2 : Int32)) &&& (3 : Int32))), .val (.ref r734), .val (.ref r736), .val (.ref r738), .val (.ref r740), .val (.int (1 : Int32)), .val (.int (1 : Int32)), .unset, .unset, .unset, .unset, .unset] [(.ref b855)])
        refine og_astore X867 137 #[.val (.int k1), .val (.int u1), .val (.int k2), .val (.int u2), .val (.int pm), .val (.int (1 : Int32)), .val (.int (0 : Int32)), .val (.int ((XT.ushr pm (2 : Int32)) &&& (3 : Int32))), .val (.ref r734), .val (.ref r736), .val (.ref r738), .val (.ref r740), .val (.int (1 : Int32)), .val (.int (1 : Int32)), .val (.ref b855), .unset, .unset, .unset, .unset] at_135 rfl rfl rfl ?_
        refine own_new X867 140 at_137 (hw _ (List.mem_of_getElem? (i := 54) rfl)) (hw _ (List.mem_of_getElem? (i := 55) rfl)) (hw _ (List.mem_of_getElem? (i := 56) rfl)) (by decide) (by decide) rfl ?_
        intro T870 h870 b870 X870 K870 G870 U870 E870 D870
        have f871 : Fld Z h870 b870 "com/example/chitragupta/chitragupta/model/HelpdeskSite" "kind" "Ljava/lang/String;" .null := D870 (Or.inr (hw _ (List.mem_of_getElem? (i := 67) rfl))) (ty := (.object "java/lang/String")) (by decide)
        have f872 : Fld Z h870 b870 "com/example/chitragupta/chitragupta/model/HelpdeskSite" "url" "Ljava/lang/String;" .null := D870 (Or.inr (hw _ (List.mem_of_getElem? (i := 69) rfl))) (ty := (.object "java/lang/String")) (by decide)
        refine og_dup X870 141 at_140 rfl rfl ?_
        refine og_aload X870 143 at_141 rfl rfl rfl ?_
        refine og_aload X870 145 at_143 rfl rfl rfl ?_
        have f873 := f739.exa.keep K740
        have f874 := f873.keep K742
        have f875 := f874.keep K855
        have f876 := f875.keep K867
        have f877 := f876.keep K870
        have f878 := f741.exa.keep K742
        have f879 := f878.keep K855
        have f880 := f879.keep K867
        have f881 := f880.keep K870
        refine own_spec X870 148 (a := b870) (argsL := [(.ref r738), (.ref r740)]) (rest := [(.ref b870)]) at_145 rfl (rm13 l Z a0 hw n0 h870 hWd [] X870.old b870 r738 r740 E870 f871 f872 f877 f881 (own_svb X870 (List.mem_of_getElem? (i := 0) rfl))) (hw _ (List.mem_of_getElem? (i := 57) rfl)) (hw _ (List.mem_of_getElem? (i := 58) rfl)) (hw _ (List.mem_of_getElem? (i := 56) rfl)) (hw _ (List.mem_of_getElem? (i := 59) rfl)) (by decide) (lenOf pd__28Ljava_2flang_2fString_3bLjava_2flang_2fString_3b_29V rfl) rfl rfl rfl (W := 1) rfl (by decide) (by decide) (by decide) (by decide) (allS (List.mem_of_getElem? (i := 0) rfl) all0) rfl ?_
        intro T882 h882 v882 X882 K882 hQ882
        obtain ⟨rfl, f883, f884⟩ := hQ882
        show OGo _ _ _ _ T882 (mkF m 148 #[.val (.int k1), .val (.int u1), .val (.int k2), .val (.int u2), .val (.int pm), .val (.int (1 : Int32)), .val (.int (0 : Int32)), .val (.int ((XT.ushr pm (2 : Int32)) &&& (3 : Int32))), .val (.ref r734), .val (.ref r736), .val (.ref r738), .val (.ref r740), .val (.int (1 : Int32)), .val (.int (1 : Int32)), .val (.ref b855), .unset, .unset, .unset, .unset] [(.ref b870)])
        refine og_astore X882 150 #[.val (.int k1), .val (.int u1), .val (.int k2), .val (.int u2), .val (.int pm), .val (.int (1 : Int32)), .val (.int (0 : Int32)), .val (.int ((XT.ushr pm (2 : Int32)) &&& (3 : Int32))), .val (.ref r734), .val (.ref r736), .val (.ref r738), .val (.ref r740), .val (.int (1 : Int32)), .val (.int (1 : Int32)), .val (.ref b855), .val (.ref b870), .unset, .unset, .unset] at_148 rfl rfl rfl ?_
        refine og_iload X882 152 at_150 rfl rfl ?_
        by_cases hc885 : ((XT.ushr pm (2 : Int32)) &&& (3 : Int32)) = 0
        · -- ((XT.ushr pm (2 : Int32)) &&& (3 : Int32)) = 0
          refine og_ifN X882 155 at_152 (XT.i0_ne_f hc885) rfl ?_
          refine og_aload X882 157 at_155 rfl rfl rfl ?_
          refine og_astore X882 159 #[.val (.int k1), .val (.int u1), .val (.int k2), .val (.int u2), .val (.int pm), .val (.int (1 : Int32)), .val (.int (0 : Int32)), .val (.int ((XT.ushr pm (2 : Int32)) &&& (3 : Int32))), .val (.ref r734), .val (.ref r736), .val (.ref r738), .val (.ref r740), .val (.int (1 : Int32)), .val (.int (1 : Int32)), .val (.ref b855), .val (.ref b870), .val (.ref b870), .unset, .unset] at_157 rfl rfl rfl ?_
          refine og_iload X882 161 at_159 rfl rfl ?_
          refine og_ifN X882 164 at_161 (XT.i0_eq_f (by decide)) rfl ?_
          refine og_iload X882 166 at_164 rfl rfl ?_
          refine og_ifN X882 169 at_166 (XT.i0_eq_f (by decide)) rfl ?_
          refine og_iconst X882 170 (1 : Int32) at_169 rfl rfl ?_
          refine og_goto X882 174 at_170 (by decide) (by decide) ?_
          refine og_istore X882 176 #[.val (.int k1), .val (.int u1), .val (.int k2), .val (.int u2), .val (.int pm), .val (.int (1 : Int32)), .val (.int (0 : Int32)), .val (.int ((XT.ushr pm (2 : Int32)) &&& (3 : Int32))), .val (.ref r734), .val (.ref r736), .val (.ref r738), .val (.ref r740), .val (.int (1 : Int32)), .val (.int (1 : Int32)), .val (.ref b855), .val (.ref b870), .val (.ref b870), .val (.int (1 : Int32)), .unset] at_174 rfl rfl ?_
          refine og_goto X882 217 at_176 (by decide) (by decide) ?_
          refine og_aload X882 219 at_217 rfl rfl rfl ?_
          refine og_aload X882 221 at_219 rfl rfl rfl ?_
          have f886 := E855.keep K867
          have f887 := f886.keep K870
          have f888 := f887.keep K882
          have f889 := E870.keep K882
          have f890 := f868.keep K870 nin0
          have f891 := f890.keep K882 (ninS (Nat.ne_of_lt (Nat.lt_of_lt_of_le (Nat.lt_of_lt_of_le U855 K867.1) G870)) nin0)
          have f892 := f869.keep K870 nin0
          have f893 := f892.keep K882 (ninS (Nat.ne_of_lt (Nat.lt_of_lt_of_le (Nat.lt_of_lt_of_le U855 K867.1) G870)) nin0)
          have f894 := f735.keep K736 all0
          have f895 := f894.keep K738 all0
          have f896 := f895.keep K740 all0
          have f897 := f896.keep K742 all0
          have f898 := f897.keep K855 all0
          have f899 := f898.keep K867 (allS (Or.inl (Nat.le_trans (Nat.le_trans (Nat.le_trans (Nat.le_trans K736.1 K738.1) K740.1) K742.1) G855)) all0)
          have f900 := f899.keep K870 all0
          have f901 := f900.keep K882 (allS (Or.inl (Nat.le_trans (Nat.le_trans (Nat.le_trans (Nat.le_trans (Nat.le_trans (Nat.le_trans K736.1 K738.1) K740.1) K742.1) K855.1) K867.1) G870)) all0)
          have f902 := f737.keep K738 all0
          have f903 := f902.keep K740 all0
          have f904 := f903.keep K742 all0
          have f905 := f904.keep K855 all0
          have f906 := f905.keep K867 (allS (Or.inl (Nat.le_trans (Nat.le_trans (Nat.le_trans K738.1 K740.1) K742.1) G855)) all0)
          have f907 := f906.keep K870 all0
          have f908 := f907.keep K882 (allS (Or.inl (Nat.le_trans (Nat.le_trans (Nat.le_trans (Nat.le_trans (Nat.le_trans K738.1 K740.1) K742.1) K855.1) K867.1) G870)) all0)
          have f909 := f739.keep K740 all0
          have f910 := f909.keep K742 all0
          have f911 := f910.keep K855 all0
          have f912 := f911.keep K867 (allS (Or.inl (Nat.le_trans (Nat.le_trans K740.1 K742.1) G855)) all0)
          have f913 := f912.keep K870 all0
          have f914 := f913.keep K882 (allS (Or.inl (Nat.le_trans (Nat.le_trans (Nat.le_trans (Nat.le_trans K740.1 K742.1) K855.1) K867.1) G870)) all0)
          have f915 := f741.keep K742 all0
          have f916 := f915.keep K855 all0
          have f917 := f916.keep K867 (allS (Or.inl (Nat.le_trans K742.1 G855)) all0)
          have f918 := f917.keep K870 all0
          have f919 := f918.keep K882 (allS (Or.inl (Nat.le_trans (Nat.le_trans (Nat.le_trans K742.1 K855.1) K867.1) G870)) all0)
          refine own_virt X882 224 (a := b855) (argsL := [(.ref b870)]) (rest := []) at_221 f888 (fun _ hZ => notFace_of_selects (args := #[]) (mvT hZ (hw _ (List.mem_of_getElem? (i := 73) rfl)))) (rm_eqK l Z a0 hw n0 h882 hWd [] X882.old b855 b870 r734 r736 r738 r740 (own_mk k1) (own_mk u1) (own_mk k1) (own_mk u2) f889 f891 f893 f883 f884 f901.top f908.top f914.top f919.top ) (hw _ (List.mem_of_getElem? (i := 70) rfl)) (hw _ (List.mem_of_getElem? (i := 71) rfl)) (hw _ (List.mem_of_getElem? (i := 73) rfl)) (hw _ (List.mem_of_getElem? (i := 72) rfl)) (hw _ (List.mem_of_getElem? (i := 56) rfl)) (hw _ (List.mem_of_getElem? (i := 74) rfl)) (by decide) (lenOf pd__28Ljava_2flang_2fObject_3b_29Z rfl) rfl rfl rfl (W := 0) rfl (by decide) (by decide) (by decide) (by decide) all0 rfl ?_
          intro T920 h920 v920 X920 K920 hQ920
          obtain rfl := hQ920
          show OGo _ _ _ _ T920 (mkF m 224 #[.val (.int k1), .val (.int u1), .val (.int k2), .val (.int u2), .val (.int pm), .val (.int (1 : Int32)), .val (.int (0 : Int32)), .val (.int ((XT.ushr pm (2 : Int32)) &&& (3 : Int32))), .val (.ref r734), .val (.ref r736), .val (.ref r738), .val (.ref r740), .val (.int (1 : Int32)), .val (.int (1 : Int32)), .val (.ref b855), .val (.ref b870), .val (.ref b870), .val (.int (1 : Int32)), .unset] [(.int (own_eq2 (own_mk k1) (own_mk u1) (own_mk k1) (own_mk u2)))])
          refine og_istore X920 226 #[.val (.int k1), .val (.int u1), .val (.int k2), .val (.int u2), .val (.int pm), .val (.int (1 : Int32)), .val (.int (0 : Int32)), .val (.int ((XT.ushr pm (2 : Int32)) &&& (3 : Int32))), .val (.ref r734), .val (.ref r736), .val (.ref r738), .val (.ref r740), .val (.int (1 : Int32)), .val (.int (1 : Int32)), .val (.ref b855), .val (.ref b870), .val (.ref b870), .val (.int (1 : Int32)), .val (.int (own_eq2 (own_mk k1) (own_mk u1) (own_mk k1) (own_mk u2)))] at_224 rfl rfl ?_
          refine og_iload X920 228 at_226 rfl rfl ?_
          refine og_ifN X920 231 at_228 (XT.i0_ne_f hc885) rfl ?_
          refine og_iload X920 233 at_231 rfl rfl ?_
          refine og_iload X920 235 at_233 rfl rfl ?_
          refine og_icmpN X920 238 at_235 (XT.ii_ne_f (own_eq2_1 rfl (own_eqb_yes hc743))) rfl ?_
          refine og_aload X920 240 at_238 rfl rfl rfl ?_
          refine og_aload X920 242 at_240 rfl rfl rfl ?_
          have f921 := f889.keep K920
          have f922 := f888.keep K920
          have f923 := f883.keep K920 nin0
          have f924 := f884.keep K920 nin0
          have f925 := f891.keep K920 nin0
          have f926 := f893.keep K920 nin0
          have f927 := f914.keep K920 all0
          have f928 := f919.keep K920 all0
          have f929 := f901.keep K920 all0
          have f930 := f908.keep K920 all0
          refine own_virt X920 245 (a := b870) (argsL := [(.ref b855)]) (rest := []) at_242 f921 (fun _ hZ => notFace_of_selects (args := #[]) (mvT hZ (hw _ (List.mem_of_getElem? (i := 73) rfl)))) (rm_eqK l Z a0 hw n0 h920 hWd [] X920.old b870 b855 r738 r740 r734 r736 (own_mk k1) (own_mk u2) (own_mk k1) (own_mk u1) f922 f923 f924 f925 f926 f927.top f928.top f929.top f930.top ) (hw _ (List.mem_of_getElem? (i := 70) rfl)) (hw _ (List.mem_of_getElem? (i := 71) rfl)) (hw _ (List.mem_of_getElem? (i := 73) rfl)) (hw _ (List.mem_of_getElem? (i := 72) rfl)) (hw _ (List.mem_of_getElem? (i := 56) rfl)) (hw _ (List.mem_of_getElem? (i := 74) rfl)) (by decide) (lenOf pd__28Ljava_2flang_2fObject_3b_29Z rfl) rfl rfl rfl (W := 0) rfl (by decide) (by decide) (by decide) (by decide) all0 rfl ?_
          intro T931 h931 v931 X931 K931 hQ931
          obtain rfl := hQ931
          show OGo _ _ _ _ T931 (mkF m 245 #[.val (.int k1), .val (.int u1), .val (.int k2), .val (.int u2), .val (.int pm), .val (.int (1 : Int32)), .val (.int (0 : Int32)), .val (.int ((XT.ushr pm (2 : Int32)) &&& (3 : Int32))), .val (.ref r734), .val (.ref r736), .val (.ref r738), .val (.ref r740), .val (.int (1 : Int32)), .val (.int (1 : Int32)), .val (.ref b855), .val (.ref b870), .val (.ref b870), .val (.int (1 : Int32)), .val (.int (own_eq2 (own_mk k1) (own_mk u1) (own_mk k1) (own_mk u2)))] [(.int (own_eq2 (own_mk k1) (own_mk u2) (own_mk k1) (own_mk u1)))])
          refine og_iload X931 247 at_245 rfl rfl ?_
          refine og_icmpN X931 250 at_247 (XT.ii_ne_f (own_eq2_1 rfl (own_eqb_yes hc743).symm)) rfl ?_
          refine og_iconst X931 251 (1 : Int32) at_250 rfl rfl ?_
          refine og_goto X931 255 at_251 (by decide) (by decide) ?_
          refine own_retZ X931 at_255 hret rfl (by decide) (by decide) ?_
          exact rfl
        · -- not
          refine og_ifY X882 179 at_152 (XT.i0_ne_t hc885) (by decide) (by decide) ?_
          refine og_iload X882 181 at_179 rfl rfl ?_
          refine og_iconst X882 182 (1 : Int32) at_181 rfl rfl ?_
          by_cases hc932 : ((XT.ushr pm (2 : Int32)) &&& (3 : Int32)) = (1 : Int32)
          · -- ((XT.ushr pm (2 : Int32)) &&& (3 : Int32)) = (1 : Int32)
            refine og_icmpN X882 185 at_182 (XT.ii_ne_f hc932) rfl ?_
            refine og_aconstNull X882 186 at_185 rfl ?_
            refine og_astore X882 188 #[.val (.int k1), .val (.int u1), .val (.int k2), .val (.int u2), .val (.int pm), .val (.int (1 : Int32)), .val (.int (0 : Int32)), .val (.int ((XT.ushr pm (2 : Int32)) &&& (3 : Int32))), .val (.ref r734), .val (.ref r736), .val (.ref r738), .val (.ref r740), .val (.int (1 : Int32)), .val (.int (1 : Int32)), .val (.ref b855), .val (.ref b870), .val .null, .unset, .unset] at_186 rfl rfl rfl ?_
            refine og_iconst X882 189 (0 : Int32) at_188 rfl rfl ?_
            refine og_istore X882 191 #[.val (.int k1), .val (.int u1), .val (.int k2), .val (.int u2), .val (.int pm), .val (.int (1 : Int32)), .val (.int (0 : Int32)), .val (.int ((XT.ushr pm (2 : Int32)) &&& (3 : Int32))), .val (.ref r734), .val (.ref r736), .val (.ref r738), .val (.ref r740), .val (.int (1 : Int32)), .val (.int (1 : Int32)), .val (.ref b855), .val (.ref b870), .val .null, .val (.int (0 : Int32)), .unset] at_189 rfl rfl ?_
            refine og_goto X882 217 at_191 (by decide) (by decide) ?_
            refine og_aload X882 219 at_217 rfl rfl rfl ?_
            refine og_aload X882 221 at_219 rfl rfl rfl ?_
            have f933 := E855.keep K867
            have f934 := f933.keep K870
            have f935 := f934.keep K882
            refine own_virt X882 224 (a := b855) (argsL := [.null]) (rest := []) at_221 f935 (fun _ hZ => notFace_of_selects (args := #[]) (mvT hZ (hw _ (List.mem_of_getElem? (i := 73) rfl)))) (rm_eqN l Z a0 hw n0 h882 hWd [] X882.old b855  ) (hw _ (List.mem_of_getElem? (i := 70) rfl)) (hw _ (List.mem_of_getElem? (i := 71) rfl)) (hw _ (List.mem_of_getElem? (i := 73) rfl)) (hw _ (List.mem_of_getElem? (i := 72) rfl)) (hw _ (List.mem_of_getElem? (i := 56) rfl)) (hw _ (List.mem_of_getElem? (i := 74) rfl)) (by decide) (lenOf pd__28Ljava_2flang_2fObject_3b_29Z rfl) rfl rfl rfl (W := 0) rfl (by decide) (by decide) (by decide) (by decide) all0 rfl ?_
            intro T936 h936 v936 X936 K936 hQ936
            obtain rfl := hQ936
            show OGo _ _ _ _ T936 (mkF m 224 #[.val (.int k1), .val (.int u1), .val (.int k2), .val (.int u2), .val (.int pm), .val (.int (1 : Int32)), .val (.int (0 : Int32)), .val (.int ((XT.ushr pm (2 : Int32)) &&& (3 : Int32))), .val (.ref r734), .val (.ref r736), .val (.ref r738), .val (.ref r740), .val (.int (1 : Int32)), .val (.int (1 : Int32)), .val (.ref b855), .val (.ref b870), .val .null, .val (.int (0 : Int32)), .unset] [(.int (0 : Int32))])
            refine og_istore X936 226 #[.val (.int k1), .val (.int u1), .val (.int k2), .val (.int u2), .val (.int pm), .val (.int (1 : Int32)), .val (.int (0 : Int32)), .val (.int ((XT.ushr pm (2 : Int32)) &&& (3 : Int32))), .val (.ref r734), .val (.ref r736), .val (.ref r738), .val (.ref r740), .val (.int (1 : Int32)), .val (.int (1 : Int32)), .val (.ref b855), .val (.ref b870), .val .null, .val (.int (0 : Int32)), .val (.int (0 : Int32))] at_224 rfl rfl ?_
            refine og_iload X936 228 at_226 rfl rfl ?_
            refine og_ifY X936 256 at_228 (XT.i0_ne_t hc885) (by decide) (by decide) ?_
            refine og_iload X936 258 at_256 rfl rfl ?_
            refine og_iload X936 260 at_258 rfl rfl ?_
            refine og_icmpN X936 263 at_260 (XT.ii_ne_f (by decide)) rfl ?_
            refine og_iconst X936 264 (1 : Int32) at_263 rfl rfl ?_
            refine og_goto X936 268 at_264 (by decide) (by decide) ?_
            refine own_retZ X936 at_268 hret rfl (by decide) (by decide) ?_
            exact rfl
          · -- not
            refine og_icmpY X882 194 at_182 (XT.ii_ne_t hc932) (by decide) (by decide) ?_
            refine og_iload X882 196 at_194 rfl rfl ?_
            refine og_iconst X882 197 (2 : Int32) at_196 rfl rfl ?_
            by_cases hc937 : ((XT.ushr pm (2 : Int32)) &&& (3 : Int32)) = (2 : Int32)
            · -- ((XT.ushr pm (2 : Int32)) &&& (3 : Int32)) = (2 : Int32)
              refine og_icmpN X882 200 at_197 (XT.ii_ne_f hc937) rfl ?_
              refine og_aload X882 202 at_200 rfl rfl rfl ?_
              refine og_astore X882 204 #[.val (.int k1), .val (.int u1), .val (.int k2), .val (.int u2), .val (.int pm), .val (.int (1 : Int32)), .val (.int (0 : Int32)), .val (.int ((XT.ushr pm (2 : Int32)) &&& (3 : Int32))), .val (.ref r734), .val (.ref r736), .val (.ref r738), .val (.ref r740), .val (.int (1 : Int32)), .val (.int (1 : Int32)), .val (.ref b855), .val (.ref b870), .val (.ref r738), .unset, .unset] at_202 rfl rfl rfl ?_
              refine og_iconst X882 205 (0 : Int32) at_204 rfl rfl ?_
              refine og_istore X882 207 #[.val (.int k1), .val (.int u1), .val (.int k2), .val (.int u2), .val (.int pm), .val (.int (1 : Int32)), .val (.int (0 : Int32)), .val (.int ((XT.ushr pm (2 : Int32)) &&& (3 : Int32))), .val (.ref r734), .val (.ref r736), .val (.ref r738), .val (.ref r740), .val (.int (1 : Int32)), .val (.int (1 : Int32)), .val (.ref b855), .val (.ref b870), .val (.ref r738), .val (.int (0 : Int32)), .unset] at_205 rfl rfl ?_
              refine og_goto X882 217 at_207 (by decide) (by decide) ?_
              refine og_aload X882 219 at_217 rfl rfl rfl ?_
              refine og_aload X882 221 at_219 rfl rfl rfl ?_
              have f938 := E855.keep K867
              have f939 := f938.keep K870
              have f940 := f939.keep K882
              have f941 := f877.keep K882
              refine own_virt X882 224 (a := b855) (argsL := [(.ref r738)]) (rest := []) at_221 f940 (fun _ hZ => notFace_of_selects (args := #[]) (mvT hZ (hw _ (List.mem_of_getElem? (i := 73) rfl)))) (rm_eqS l Z a0 hw n0 h882 hWd [] X882.old b855 r738 f941 ) (hw _ (List.mem_of_getElem? (i := 70) rfl)) (hw _ (List.mem_of_getElem? (i := 71) rfl)) (hw _ (List.mem_of_getElem? (i := 73) rfl)) (hw _ (List.mem_of_getElem? (i := 72) rfl)) (hw _ (List.mem_of_getElem? (i := 56) rfl)) (hw _ (List.mem_of_getElem? (i := 74) rfl)) (by decide) (lenOf pd__28Ljava_2flang_2fObject_3b_29Z rfl) rfl rfl rfl (W := 0) rfl (by decide) (by decide) (by decide) (by decide) all0 rfl ?_
              intro T942 h942 v942 X942 K942 hQ942
              obtain rfl := hQ942
              show OGo _ _ _ _ T942 (mkF m 224 #[.val (.int k1), .val (.int u1), .val (.int k2), .val (.int u2), .val (.int pm), .val (.int (1 : Int32)), .val (.int (0 : Int32)), .val (.int ((XT.ushr pm (2 : Int32)) &&& (3 : Int32))), .val (.ref r734), .val (.ref r736), .val (.ref r738), .val (.ref r740), .val (.int (1 : Int32)), .val (.int (1 : Int32)), .val (.ref b855), .val (.ref b870), .val (.ref r738), .val (.int (0 : Int32)), .unset] [(.int (0 : Int32))])
              refine og_istore X942 226 #[.val (.int k1), .val (.int u1), .val (.int k2), .val (.int u2), .val (.int pm), .val (.int (1 : Int32)), .val (.int (0 : Int32)), .val (.int ((XT.ushr pm (2 : Int32)) &&& (3 : Int32))), .val (.ref r734), .val (.ref r736), .val (.ref r738), .val (.ref r740), .val (.int (1 : Int32)), .val (.int (1 : Int32)), .val (.ref b855), .val (.ref b870), .val (.ref r738), .val (.int (0 : Int32)), .val (.int (0 : Int32))] at_224 rfl rfl ?_
              refine og_iload X942 228 at_226 rfl rfl ?_
              refine og_ifY X942 256 at_228 (XT.i0_ne_t hc885) (by decide) (by decide) ?_
              refine og_iload X942 258 at_256 rfl rfl ?_
              refine og_iload X942 260 at_258 rfl rfl ?_
              refine og_icmpN X942 263 at_260 (XT.ii_ne_f (by decide)) rfl ?_
              refine og_iconst X942 264 (1 : Int32) at_263 rfl rfl ?_
              refine og_goto X942 268 at_264 (by decide) (by decide) ?_
              refine own_retZ X942 at_268 hret rfl (by decide) (by decide) ?_
              exact rfl
            · -- not
              refine og_icmpY X882 210 at_197 (XT.ii_ne_t hc937) (by decide) (by decide) ?_
              refine og_aload X882 212 at_210 rfl rfl rfl ?_
              refine og_astore X882 214 #[.val (.int k1), .val (.int u1), .val (.int k2), .val (.int u2), .val (.int pm), .val (.int (1 : Int32)), .val (.int (0 : Int32)), .val (.int ((XT.ushr pm (2 : Int32)) &&& (3 : Int32))), .val (.ref r734), .val (.ref r736), .val (.ref r738), .val (.ref r740), .val (.int (1 : Int32)), .val (.int (1 : Int32)), .val (.ref b855), .val (.ref b870), .val (.ref b855), .unset, .unset] at_212 rfl rfl rfl ?_
              refine og_iconst X882 215 (1 : Int32) at_214 rfl rfl ?_
              refine og_istore X882 217 #[.val (.int k1), .val (.int u1), .val (.int k2), .val (.int u2), .val (.int pm), .val (.int (1 : Int32)), .val (.int (0 : Int32)), .val (.int ((XT.ushr pm (2 : Int32)) &&& (3 : Int32))), .val (.ref r734), .val (.ref r736), .val (.ref r738), .val (.ref r740), .val (.int (1 : Int32)), .val (.int (1 : Int32)), .val (.ref b855), .val (.ref b870), .val (.ref b855), .val (.int (1 : Int32)), .unset] at_215 rfl rfl ?_
              refine og_aload X882 219 at_217 rfl rfl rfl ?_
              refine og_aload X882 221 at_219 rfl rfl rfl ?_
              have f943 := E855.keep K867
              have f944 := f943.keep K870
              have f945 := f944.keep K882
              have f946 := f868.keep K870 nin0
              have f947 := f946.keep K882 (ninS (Nat.ne_of_lt (Nat.lt_of_lt_of_le (Nat.lt_of_lt_of_le U855 K867.1) G870)) nin0)
              have f948 := f869.keep K870 nin0
              have f949 := f948.keep K882 (ninS (Nat.ne_of_lt (Nat.lt_of_lt_of_le (Nat.lt_of_lt_of_le U855 K867.1) G870)) nin0)
              have f950 := f735.keep K736 all0
              have f951 := f950.keep K738 all0
              have f952 := f951.keep K740 all0
              have f953 := f952.keep K742 all0
              have f954 := f953.keep K855 all0
              have f955 := f954.keep K867 (allS (Or.inl (Nat.le_trans (Nat.le_trans (Nat.le_trans (Nat.le_trans K736.1 K738.1) K740.1) K742.1) G855)) all0)
              have f956 := f955.keep K870 all0
              have f957 := f956.keep K882 (allS (Or.inl (Nat.le_trans (Nat.le_trans (Nat.le_trans (Nat.le_trans (Nat.le_trans (Nat.le_trans K736.1 K738.1) K740.1) K742.1) K855.1) K867.1) G870)) all0)
              have f958 := f737.keep K738 all0
              have f959 := f958.keep K740 all0
              have f960 := f959.keep K742 all0
              have f961 := f960.keep K855 all0
              have f962 := f961.keep K867 (allS (Or.inl (Nat.le_trans (Nat.le_trans (Nat.le_trans K738.1 K740.1) K742.1) G855)) all0)
              have f963 := f962.keep K870 all0
              have f964 := f963.keep K882 (allS (Or.inl (Nat.le_trans (Nat.le_trans (Nat.le_trans (Nat.le_trans (Nat.le_trans K738.1 K740.1) K742.1) K855.1) K867.1) G870)) all0)
              refine own_virt X882 224 (a := b855) (argsL := [(.ref b855)]) (rest := []) at_221 f945 (fun _ hZ => notFace_of_selects (args := #[]) (mvT hZ (hw _ (List.mem_of_getElem? (i := 73) rfl)))) (rm_eqK l Z a0 hw n0 h882 hWd [] X882.old b855 b855 r734 r736 r734 r736 (own_mk k1) (own_mk u1) (own_mk k1) (own_mk u1) f945 f947 f949 f947 f949 f957.top f964.top f957.top f964.top ) (hw _ (List.mem_of_getElem? (i := 70) rfl)) (hw _ (List.mem_of_getElem? (i := 71) rfl)) (hw _ (List.mem_of_getElem? (i := 73) rfl)) (hw _ (List.mem_of_getElem? (i := 72) rfl)) (hw _ (List.mem_of_getElem? (i := 56) rfl)) (hw _ (List.mem_of_getElem? (i := 74) rfl)) (by decide) (lenOf pd__28Ljava_2flang_2fObject_3b_29Z rfl) rfl rfl rfl (W := 0) rfl (by decide) (by decide) (by decide) (by decide) all0 rfl ?_
              intro T965 h965 v965 X965 K965 hQ965
              obtain rfl := hQ965
              show OGo _ _ _ _ T965 (mkF m 224 #[.val (.int k1), .val (.int u1), .val (.int k2), .val (.int u2), .val (.int pm), .val (.int (1 : Int32)), .val (.int (0 : Int32)), .val (.int ((XT.ushr pm (2 : Int32)) &&& (3 : Int32))), .val (.ref r734), .val (.ref r736), .val (.ref r738), .val (.ref r740), .val (.int (1 : Int32)), .val (.int (1 : Int32)), .val (.ref b855), .val (.ref b870), .val (.ref b855), .val (.int (1 : Int32)), .unset] [(.int (own_eq2 (own_mk k1) (own_mk u1) (own_mk k1) (own_mk u1)))])
              refine og_istore X965 226 #[.val (.int k1), .val (.int u1), .val (.int k2), .val (.int u2), .val (.int pm), .val (.int (1 : Int32)), .val (.int (0 : Int32)), .val (.int ((XT.ushr pm (2 : Int32)) &&& (3 : Int32))), .val (.ref r734), .val (.ref r736), .val (.ref r738), .val (.ref r740), .val (.int (1 : Int32)), .val (.int (1 : Int32)), .val (.ref b855), .val (.ref b870), .val (.ref b855), .val (.int (1 : Int32)), .val (.int (own_eq2 (own_mk k1) (own_mk u1) (own_mk k1) (own_mk u1)))] at_224 rfl rfl ?_
              refine og_iload X965 228 at_226 rfl rfl ?_
              refine og_ifY X965 256 at_228 (XT.i0_ne_t hc885) (by decide) (by decide) ?_
              refine og_iload X965 258 at_256 rfl rfl ?_
              refine og_iload X965 260 at_258 rfl rfl ?_
              refine og_icmpN X965 263 at_260 (XT.ii_ne_f (own_eq2_1 rfl rfl)) rfl ?_
              refine og_iconst X965 264 (1 : Int32) at_263 rfl rfl ?_
              refine og_goto X965 268 at_264 (by decide) (by decide) ?_
              refine own_retZ X965 at_268 hret rfl (by decide) (by decide) ?_
              exact rfl
    · -- not
      refine og_ifN X0 21 at_18 (XT.i0_eq_f hc733) rfl ?_
      refine og_iconst X0 22 (1 : Int32) at_21 rfl rfl ?_
      refine og_goto X0 26 at_22 (by decide) (by decide) ?_
      refine og_istore X0 28 #[.val (.int k1), .val (.int u1), .val (.int k2), .val (.int u2), .val (.int pm), .val (.int (1 : Int32)), .val (.int (1 : Int32)), .unset, .unset, .unset, .unset, .unset, .unset, .unset, .unset, .unset, .unset, .unset, .unset] at_26 rfl rfl ?_
      refine og_iload X0 30 at_28 rfl rfl ?_
      refine og_iconst X0 31 (2 : Int32) at_30 rfl rfl ?_
      refine og_iushr X0 32 at_31 rfl ?_
      refine og_iconst X0 33 (3 : Int32) at_32 rfl rfl ?_
      refine og_iand X0 34 at_33 rfl ?_
      refine og_istore X0 36 #[.val (.int k1), .val (.int u1), .val (.int k2), .val (.int u2), .val (.int pm), .val (.int (1 : Int32)), .val (.int (1 : Int32)), .val (.int ((XT.ushr pm (2 : Int32)) &&& (3 : Int32))), .unset, .unset, .unset, .unset, .unset, .unset, .unset, .unset, .unset, .unset, .unset] at_34 rfl rfl ?_
      refine og_iloadN X0 37 at_36 rfl rfl ?_
      refine own_stat X0 40 (argsL := [(.int k1)]) (rest := []) at_37 (rm1 l Z a0 hw n0 h0 hWd [] X0.old k1  ) (hw _ (List.mem_of_getElem? (i := 0) rfl)) (hw _ (List.mem_of_getElem? (i := 1) rfl)) (hw _ (List.mem_of_getElem? (i := 2) rfl)) (hw _ (List.mem_of_getElem? (i := 3) rfl)) (by decide) (lenOf pd__28I_29Ljava_2flang_2fString_3b rfl) rfl rfl rfl (W := 0) rfl (by decide) (by decide) (by decide) (by decide) all0 rfl ?_
      intro T966 h966 v966 X966 K966 hQ966
      obtain ⟨r966, rfl, ge_r966, f967⟩ := hQ966
      show OGo _ _ _ _ T966 (mkF m 40 #[.val (.int k1), .val (.int u1), .val (.int k2), .val (.int u2), .val (.int pm), .val (.int (1 : Int32)), .val (.int (1 : Int32)), .val (.int ((XT.ushr pm (2 : Int32)) &&& (3 : Int32))), .unset, .unset, .unset, .unset, .unset, .unset, .unset, .unset, .unset, .unset, .unset] [(.ref r966)])
      refine og_astore X966 42 #[.val (.int k1), .val (.int u1), .val (.int k2), .val (.int u2), .val (.int pm), .val (.int (1 : Int32)), .val (.int (1 : Int32)), .val (.int ((XT.ushr pm (2 : Int32)) &&& (3 : Int32))), .val (.ref r966), .unset, .unset, .unset, .unset, .unset, .unset, .unset, .unset, .unset, .unset] at_40 rfl rfl rfl ?_
      refine og_iloadN X966 43 at_42 rfl rfl ?_
      refine own_stat X966 46 (argsL := [(.int u1)]) (rest := []) at_43 (rm1 l Z a0 hw n0 h966 hWd [] X966.old u1  ) (hw _ (List.mem_of_getElem? (i := 0) rfl)) (hw _ (List.mem_of_getElem? (i := 1) rfl)) (hw _ (List.mem_of_getElem? (i := 2) rfl)) (hw _ (List.mem_of_getElem? (i := 3) rfl)) (by decide) (lenOf pd__28I_29Ljava_2flang_2fString_3b rfl) rfl rfl rfl (W := 0) rfl (by decide) (by decide) (by decide) (by decide) all0 rfl ?_
      intro T968 h968 v968 X968 K968 hQ968
      obtain ⟨r968, rfl, ge_r968, f969⟩ := hQ968
      show OGo _ _ _ _ T968 (mkF m 46 #[.val (.int k1), .val (.int u1), .val (.int k2), .val (.int u2), .val (.int pm), .val (.int (1 : Int32)), .val (.int (1 : Int32)), .val (.int ((XT.ushr pm (2 : Int32)) &&& (3 : Int32))), .val (.ref r966), .unset, .unset, .unset, .unset, .unset, .unset, .unset, .unset, .unset, .unset] [(.ref r968)])
      refine og_astore X968 48 #[.val (.int k1), .val (.int u1), .val (.int k2), .val (.int u2), .val (.int pm), .val (.int (1 : Int32)), .val (.int (1 : Int32)), .val (.int ((XT.ushr pm (2 : Int32)) &&& (3 : Int32))), .val (.ref r966), .val (.ref r968), .unset, .unset, .unset, .unset, .unset, .unset, .unset, .unset, .unset] at_46 rfl rfl rfl ?_
      refine og_iload X968 50 at_48 rfl rfl ?_
      refine og_ifN X968 53 at_50 (XT.i0_eq_f (by decide)) rfl ?_
      refine og_iloadN X968 54 at_53 rfl rfl ?_
      refine own_stat X968 57 (argsL := [(.int k1)]) (rest := []) at_54 (rm1 l Z a0 hw n0 h968 hWd [] X968.old k1  ) (hw _ (List.mem_of_getElem? (i := 0) rfl)) (hw _ (List.mem_of_getElem? (i := 1) rfl)) (hw _ (List.mem_of_getElem? (i := 2) rfl)) (hw _ (List.mem_of_getElem? (i := 3) rfl)) (by decide) (lenOf pd__28I_29Ljava_2flang_2fString_3b rfl) rfl rfl rfl (W := 0) rfl (by decide) (by decide) (by decide) (by decide) all0 rfl ?_
      intro T970 h970 v970 X970 K970 hQ970
      obtain ⟨r970, rfl, ge_r970, f971⟩ := hQ970
      show OGo _ _ _ _ T970 (mkF m 57 #[.val (.int k1), .val (.int u1), .val (.int k2), .val (.int u2), .val (.int pm), .val (.int (1 : Int32)), .val (.int (1 : Int32)), .val (.int ((XT.ushr pm (2 : Int32)) &&& (3 : Int32))), .val (.ref r966), .val (.ref r968), .unset, .unset, .unset, .unset, .unset, .unset, .unset, .unset, .unset] [(.ref r970)])
      refine og_goto X970 64 at_57 (by decide) (by decide) ?_
      refine og_astore X970 66 #[.val (.int k1), .val (.int u1), .val (.int k2), .val (.int u2), .val (.int pm), .val (.int (1 : Int32)), .val (.int (1 : Int32)), .val (.int ((XT.ushr pm (2 : Int32)) &&& (3 : Int32))), .val (.ref r966), .val (.ref r968), .val (.ref r970), .unset, .unset, .unset, .unset, .unset, .unset, .unset, .unset] at_64 rfl rfl rfl ?_
      refine og_iload X970 68 at_66 rfl rfl ?_
      refine og_ifN X970 71 at_68 (XT.i0_eq_f (by decide)) rfl ?_
      refine og_iloadN X970 72 at_71 rfl rfl ?_
      refine own_stat X970 75 (argsL := [(.int u1)]) (rest := []) at_72 (rm1 l Z a0 hw n0 h970 hWd [] X970.old u1  ) (hw _ (List.mem_of_getElem? (i := 0) rfl)) (hw _ (List.mem_of_getElem? (i := 1) rfl)) (hw _ (List.mem_of_getElem? (i := 2) rfl)) (hw _ (List.mem_of_getElem? (i := 3) rfl)) (by decide) (lenOf pd__28I_29Ljava_2flang_2fString_3b rfl) rfl rfl rfl (W := 0) rfl (by decide) (by decide) (by decide) (by decide) all0 rfl ?_
      intro T972 h972 v972 X972 K972 hQ972
      obtain ⟨r972, rfl, ge_r972, f973⟩ := hQ972
      show OGo _ _ _ _ T972 (mkF m 75 #[.val (.int k1), .val (.int u1), .val (.int k2), .val (.int u2), .val (.int pm), .val (.int (1 : Int32)), .val (.int (1 : Int32)), .val (.int ((XT.ushr pm (2 : Int32)) &&& (3 : Int32))), .val (.ref r966), .val (.ref r968), .val (.ref r970), .unset, .unset, .unset, .unset, .unset, .unset, .unset, .unset] [(.ref r972)])
      refine og_goto X972 82 at_75 (by decide) (by decide) ?_
      refine og_astore X972 84 #[.val (.int k1), .val (.int u1), .val (.int k2), .val (.int u2), .val (.int pm), .val (.int (1 : Int32)), .val (.int (1 : Int32)), .val (.int ((XT.ushr pm (2 : Int32)) &&& (3 : Int32))), .val (.ref r966), .val (.ref r968), .val (.ref r970), .val (.ref r972), .unset, .unset, .unset, .unset, .unset, .unset, .unset] at_82 rfl rfl rfl ?_
      refine og_iload X972 86 at_84 rfl rfl ?_
      refine og_ifY X972 97 at_86 (XT.i0_ne_t (by decide)) (by decide) (by decide) ?_
      refine og_iconst X972 98 (1 : Int32) at_97 rfl rfl ?_
      refine og_goto X972 102 at_98 (by decide) (by decide) ?_
      refine og_istore X972 104 #[.val (.int k1), .val (.int u1), .val (.int k2), .val (.int u2), .val (.int pm), .val (.int (1 : Int32)), .val (.int (1 : Int32)), .val (.int ((XT.ushr pm (2 : Int32)) &&& (3 : Int32))), .val (.ref r966), .val (.ref r968), .val (.ref r970), .val (.ref r972), .val (.int (1 : Int32)), .unset, .unset, .unset, .unset, .unset, .unset] at_102 rfl rfl ?_
      refine og_iload X972 106 at_104 rfl rfl ?_
      refine og_ifY X972 117 at_106 (XT.i0_ne_t (by decide)) (by decide) (by decide) ?_
      refine og_iconst X972 118 (1 : Int32) at_117 rfl rfl ?_
      refine og_goto X972 122 at_118 (by decide) (by decide) ?_
      refine og_istore X972 124 #[.val (.int k1), .val (.int u1), .val (.int k2), .val (.int u2), .val (.int pm), .val (.int (1 : Int32)), .val (.int (1 : Int32)), .val (.int ((XT.ushr pm (2 : Int32)) &&& (3 : Int32))), .val (.ref r966), .val (.ref r968), .val (.ref r970), .val (.ref r972), .val (.int (1 : Int32)), .val (.int (1 : Int32)), .unset, .unset, .unset, .unset, .unset] at_122 rfl rfl ?_
      refine own_new X972 127 at_124 (hw _ (List.mem_of_getElem? (i := 54) rfl)) (hw _ (List.mem_of_getElem? (i := 55) rfl)) (hw _ (List.mem_of_getElem? (i := 56) rfl)) (by decide) (by decide) rfl ?_
      intro T974 h974 b974 X974 K974 G974 U974 E974 D974
      have f975 : Fld Z h974 b974 "com/example/chitragupta/chitragupta/model/HelpdeskSite" "kind" "Ljava/lang/String;" .null := D974 (Or.inr (hw _ (List.mem_of_getElem? (i := 67) rfl))) (ty := (.object "java/lang/String")) (by decide)
      have f976 : Fld Z h974 b974 "com/example/chitragupta/chitragupta/model/HelpdeskSite" "url" "Ljava/lang/String;" .null := D974 (Or.inr (hw _ (List.mem_of_getElem? (i := 69) rfl))) (ty := (.object "java/lang/String")) (by decide)
      refine og_dup X974 128 at_127 rfl rfl ?_
      refine og_aload X974 130 at_128 rfl rfl rfl ?_
      refine og_aload X974 132 at_130 rfl rfl rfl ?_
      have f977 := f967.exa.keep K968
      have f978 := f977.keep K970
      have f979 := f978.keep K972
      have f980 := f979.keep K974
      have f981 := f969.exa.keep K970
      have f982 := f981.keep K972
      have f983 := f982.keep K974
      refine own_spec X974 135 (a := b974) (argsL := [(.ref r966), (.ref r968)]) (rest := [(.ref b974)]) at_132 rfl (rm13 l Z a0 hw n0 h974 hWd [] X974.old b974 r966 r968 E974 f975 f976 f980 f983 (own_svb X974 (List.mem_of_getElem? (i := 0) rfl))) (hw _ (List.mem_of_getElem? (i := 57) rfl)) (hw _ (List.mem_of_getElem? (i := 58) rfl)) (hw _ (List.mem_of_getElem? (i := 56) rfl)) (hw _ (List.mem_of_getElem? (i := 59) rfl)) (by decide) (lenOf pd__28Ljava_2flang_2fString_3bLjava_2flang_2fString_3b_29V rfl) rfl rfl rfl (W := 1) rfl (by decide) (by decide) (by decide) (by decide) (allS (List.mem_of_getElem? (i := 0) rfl) all0) rfl ?_
      intro T984 h984 v984 X984 K984 hQ984
      obtain ⟨rfl, f985, f986⟩ := hQ984
      show OGo _ _ _ _ T984 (mkF m 135 #[.val (.int k1), .val (.int u1), .val (.int k2), .val (.int u2), .val (.int pm), .val (.int (1 : Int32)), .val (.int (1 : Int32)), .val (.int ((XT.ushr pm (2 : Int32)) &&& (3 : Int32))), .val (.ref r966), .val (.ref r968), .val (.ref r970), .val (.ref r972), .val (.int (1 : Int32)), .val (.int (1 : Int32)), .unset, .unset, .unset, .unset, .unset] [(.ref b974)])
      refine og_astore X984 137 #[.val (.int k1), .val (.int u1), .val (.int k2), .val (.int u2), .val (.int pm), .val (.int (1 : Int32)), .val (.int (1 : Int32)), .val (.int ((XT.ushr pm (2 : Int32)) &&& (3 : Int32))), .val (.ref r966), .val (.ref r968), .val (.ref r970), .val (.ref r972), .val (.int (1 : Int32)), .val (.int (1 : Int32)), .val (.ref b974), .unset, .unset, .unset, .unset] at_135 rfl rfl rfl ?_
      refine own_new X984 140 at_137 (hw _ (List.mem_of_getElem? (i := 54) rfl)) (hw _ (List.mem_of_getElem? (i := 55) rfl)) (hw _ (List.mem_of_getElem? (i := 56) rfl)) (by decide) (by decide) rfl ?_
      intro T987 h987 b987 X987 K987 G987 U987 E987 D987
      have f988 : Fld Z h987 b987 "com/example/chitragupta/chitragupta/model/HelpdeskSite" "kind" "Ljava/lang/String;" .null := D987 (Or.inr (hw _ (List.mem_of_getElem? (i := 67) rfl))) (ty := (.object "java/lang/String")) (by decide)
      have f989 : Fld Z h987 b987 "com/example/chitragupta/chitragupta/model/HelpdeskSite" "url" "Ljava/lang/String;" .null := D987 (Or.inr (hw _ (List.mem_of_getElem? (i := 69) rfl))) (ty := (.object "java/lang/String")) (by decide)
      refine og_dup X987 141 at_140 rfl rfl ?_
      refine og_aload X987 143 at_141 rfl rfl rfl ?_
      refine og_aload X987 145 at_143 rfl rfl rfl ?_
      have f990 := f971.exa.keep K972
      have f991 := f990.keep K974
      have f992 := f991.keep K984
      have f993 := f992.keep K987
      have f994 := f973.exa.keep K974
      have f995 := f994.keep K984
      have f996 := f995.keep K987
      refine own_spec X987 148 (a := b987) (argsL := [(.ref r970), (.ref r972)]) (rest := [(.ref b987)]) at_145 rfl (rm13 l Z a0 hw n0 h987 hWd [] X987.old b987 r970 r972 E987 f988 f989 f993 f996 (own_svb X987 (List.mem_of_getElem? (i := 0) rfl))) (hw _ (List.mem_of_getElem? (i := 57) rfl)) (hw _ (List.mem_of_getElem? (i := 58) rfl)) (hw _ (List.mem_of_getElem? (i := 56) rfl)) (hw _ (List.mem_of_getElem? (i := 59) rfl)) (by decide) (lenOf pd__28Ljava_2flang_2fString_3bLjava_2flang_2fString_3b_29V rfl) rfl rfl rfl (W := 1) rfl (by decide) (by decide) (by decide) (by decide) (allS (List.mem_of_getElem? (i := 0) rfl) all0) rfl ?_
      intro T997 h997 v997 X997 K997 hQ997
      obtain ⟨rfl, f998, f999⟩ := hQ997
      show OGo _ _ _ _ T997 (mkF m 148 #[.val (.int k1), .val (.int u1), .val (.int k2), .val (.int u2), .val (.int pm), .val (.int (1 : Int32)), .val (.int (1 : Int32)), .val (.int ((XT.ushr pm (2 : Int32)) &&& (3 : Int32))), .val (.ref r966), .val (.ref r968), .val (.ref r970), .val (.ref r972), .val (.int (1 : Int32)), .val (.int (1 : Int32)), .val (.ref b974), .unset, .unset, .unset, .unset] [(.ref b987)])
      refine og_astore X997 150 #[.val (.int k1), .val (.int u1), .val (.int k2), .val (.int u2), .val (.int pm), .val (.int (1 : Int32)), .val (.int (1 : Int32)), .val (.int ((XT.ushr pm (2 : Int32)) &&& (3 : Int32))), .val (.ref r966), .val (.ref r968), .val (.ref r970), .val (.ref r972), .val (.int (1 : Int32)), .val (.int (1 : Int32)), .val (.ref b974), .val (.ref b987), .unset, .unset, .unset] at_148 rfl rfl rfl ?_
      refine og_iload X997 152 at_150 rfl rfl ?_
      by_cases hc1000 : ((XT.ushr pm (2 : Int32)) &&& (3 : Int32)) = 0
      · -- ((XT.ushr pm (2 : Int32)) &&& (3 : Int32)) = 0
        refine og_ifN X997 155 at_152 (XT.i0_ne_f hc1000) rfl ?_
        refine og_aload X997 157 at_155 rfl rfl rfl ?_
        refine og_astore X997 159 #[.val (.int k1), .val (.int u1), .val (.int k2), .val (.int u2), .val (.int pm), .val (.int (1 : Int32)), .val (.int (1 : Int32)), .val (.int ((XT.ushr pm (2 : Int32)) &&& (3 : Int32))), .val (.ref r966), .val (.ref r968), .val (.ref r970), .val (.ref r972), .val (.int (1 : Int32)), .val (.int (1 : Int32)), .val (.ref b974), .val (.ref b987), .val (.ref b987), .unset, .unset] at_157 rfl rfl rfl ?_
        refine og_iload X997 161 at_159 rfl rfl ?_
        refine og_ifN X997 164 at_161 (XT.i0_eq_f (by decide)) rfl ?_
        refine og_iload X997 166 at_164 rfl rfl ?_
        refine og_ifN X997 169 at_166 (XT.i0_eq_f (by decide)) rfl ?_
        refine og_iconst X997 170 (1 : Int32) at_169 rfl rfl ?_
        refine og_goto X997 174 at_170 (by decide) (by decide) ?_
        refine og_istore X997 176 #[.val (.int k1), .val (.int u1), .val (.int k2), .val (.int u2), .val (.int pm), .val (.int (1 : Int32)), .val (.int (1 : Int32)), .val (.int ((XT.ushr pm (2 : Int32)) &&& (3 : Int32))), .val (.ref r966), .val (.ref r968), .val (.ref r970), .val (.ref r972), .val (.int (1 : Int32)), .val (.int (1 : Int32)), .val (.ref b974), .val (.ref b987), .val (.ref b987), .val (.int (1 : Int32)), .unset] at_174 rfl rfl ?_
        refine og_goto X997 217 at_176 (by decide) (by decide) ?_
        refine og_aload X997 219 at_217 rfl rfl rfl ?_
        refine og_aload X997 221 at_219 rfl rfl rfl ?_
        have f1001 := E974.keep K984
        have f1002 := f1001.keep K987
        have f1003 := f1002.keep K997
        have f1004 := E987.keep K997
        have f1005 := f985.keep K987 nin0
        have f1006 := f1005.keep K997 (ninS (Nat.ne_of_lt (Nat.lt_of_lt_of_le (Nat.lt_of_lt_of_le U974 K984.1) G987)) nin0)
        have f1007 := f986.keep K987 nin0
        have f1008 := f1007.keep K997 (ninS (Nat.ne_of_lt (Nat.lt_of_lt_of_le (Nat.lt_of_lt_of_le U974 K984.1) G987)) nin0)
        have f1009 := f967.keep K968 all0
        have f1010 := f1009.keep K970 all0
        have f1011 := f1010.keep K972 all0
        have f1012 := f1011.keep K974 all0
        have f1013 := f1012.keep K984 (allS (Or.inl (Nat.le_trans (Nat.le_trans (Nat.le_trans K968.1 K970.1) K972.1) G974)) all0)
        have f1014 := f1013.keep K987 all0
        have f1015 := f1014.keep K997 (allS (Or.inl (Nat.le_trans (Nat.le_trans (Nat.le_trans (Nat.le_trans (Nat.le_trans K968.1 K970.1) K972.1) K974.1) K984.1) G987)) all0)
        have f1016 := f969.keep K970 all0
        have f1017 := f1016.keep K972 all0
        have f1018 := f1017.keep K974 all0
        have f1019 := f1018.keep K984 (allS (Or.inl (Nat.le_trans (Nat.le_trans K970.1 K972.1) G974)) all0)
        have f1020 := f1019.keep K987 all0
        have f1021 := f1020.keep K997 (allS (Or.inl (Nat.le_trans (Nat.le_trans (Nat.le_trans (Nat.le_trans K970.1 K972.1) K974.1) K984.1) G987)) all0)
        have f1022 := f971.keep K972 all0
        have f1023 := f1022.keep K974 all0
        have f1024 := f1023.keep K984 (allS (Or.inl (Nat.le_trans K972.1 G974)) all0)
        have f1025 := f1024.keep K987 all0
        have f1026 := f1025.keep K997 (allS (Or.inl (Nat.le_trans (Nat.le_trans (Nat.le_trans K972.1 K974.1) K984.1) G987)) all0)
        have f1027 := f973.keep K974 all0
        have f1028 := f1027.keep K984 (allS (Or.inl (Nat.le_trans (Nat.le_refl _) G974)) all0)
        have f1029 := f1028.keep K987 all0
        have f1030 := f1029.keep K997 (allS (Or.inl (Nat.le_trans (Nat.le_trans K974.1 K984.1) G987)) all0)
        refine own_virt X997 224 (a := b974) (argsL := [(.ref b987)]) (rest := []) at_221 f1003 (fun _ hZ => notFace_of_selects (args := #[]) (mvT hZ (hw _ (List.mem_of_getElem? (i := 73) rfl)))) (rm_eqK l Z a0 hw n0 h997 hWd [] X997.old b974 b987 r966 r968 r970 r972 (own_mk k1) (own_mk u1) (own_mk k1) (own_mk u1) f1004 f1006 f1008 f998 f999 f1015.top f1021.top f1026.top f1030.top ) (hw _ (List.mem_of_getElem? (i := 70) rfl)) (hw _ (List.mem_of_getElem? (i := 71) rfl)) (hw _ (List.mem_of_getElem? (i := 73) rfl)) (hw _ (List.mem_of_getElem? (i := 72) rfl)) (hw _ (List.mem_of_getElem? (i := 56) rfl)) (hw _ (List.mem_of_getElem? (i := 74) rfl)) (by decide) (lenOf pd__28Ljava_2flang_2fObject_3b_29Z rfl) rfl rfl rfl (W := 0) rfl (by decide) (by decide) (by decide) (by decide) all0 rfl ?_
        intro T1031 h1031 v1031 X1031 K1031 hQ1031
        obtain rfl := hQ1031
        show OGo _ _ _ _ T1031 (mkF m 224 #[.val (.int k1), .val (.int u1), .val (.int k2), .val (.int u2), .val (.int pm), .val (.int (1 : Int32)), .val (.int (1 : Int32)), .val (.int ((XT.ushr pm (2 : Int32)) &&& (3 : Int32))), .val (.ref r966), .val (.ref r968), .val (.ref r970), .val (.ref r972), .val (.int (1 : Int32)), .val (.int (1 : Int32)), .val (.ref b974), .val (.ref b987), .val (.ref b987), .val (.int (1 : Int32)), .unset] [(.int (own_eq2 (own_mk k1) (own_mk u1) (own_mk k1) (own_mk u1)))])
        refine og_istore X1031 226 #[.val (.int k1), .val (.int u1), .val (.int k2), .val (.int u2), .val (.int pm), .val (.int (1 : Int32)), .val (.int (1 : Int32)), .val (.int ((XT.ushr pm (2 : Int32)) &&& (3 : Int32))), .val (.ref r966), .val (.ref r968), .val (.ref r970), .val (.ref r972), .val (.int (1 : Int32)), .val (.int (1 : Int32)), .val (.ref b974), .val (.ref b987), .val (.ref b987), .val (.int (1 : Int32)), .val (.int (own_eq2 (own_mk k1) (own_mk u1) (own_mk k1) (own_mk u1)))] at_224 rfl rfl ?_
        refine og_iload X1031 228 at_226 rfl rfl ?_
        refine og_ifN X1031 231 at_228 (XT.i0_ne_f hc1000) rfl ?_
        refine og_iload X1031 233 at_231 rfl rfl ?_
        refine og_iload X1031 235 at_233 rfl rfl ?_
        refine og_icmpN X1031 238 at_235 (XT.ii_ne_f (own_eq2_1 rfl rfl)) rfl ?_
        refine og_aload X1031 240 at_238 rfl rfl rfl ?_
        refine og_aload X1031 242 at_240 rfl rfl rfl ?_
        have f1032 := f1004.keep K1031
        have f1033 := f1003.keep K1031
        have f1034 := f998.keep K1031 nin0
        have f1035 := f999.keep K1031 nin0
        have f1036 := f1006.keep K1031 nin0
        have f1037 := f1008.keep K1031 nin0
        have f1038 := f1026.keep K1031 all0
        have f1039 := f1030.keep K1031 all0
        have f1040 := f1015.keep K1031 all0
        have f1041 := f1021.keep K1031 all0
        refine own_virt X1031 245 (a := b987) (argsL := [(.ref b974)]) (rest := []) at_242 f1032 (fun _ hZ => notFace_of_selects (args := #[]) (mvT hZ (hw _ (List.mem_of_getElem? (i := 73) rfl)))) (rm_eqK l Z a0 hw n0 h1031 hWd [] X1031.old b987 b974 r970 r972 r966 r968 (own_mk k1) (own_mk u1) (own_mk k1) (own_mk u1) f1033 f1034 f1035 f1036 f1037 f1038.top f1039.top f1040.top f1041.top ) (hw _ (List.mem_of_getElem? (i := 70) rfl)) (hw _ (List.mem_of_getElem? (i := 71) rfl)) (hw _ (List.mem_of_getElem? (i := 73) rfl)) (hw _ (List.mem_of_getElem? (i := 72) rfl)) (hw _ (List.mem_of_getElem? (i := 56) rfl)) (hw _ (List.mem_of_getElem? (i := 74) rfl)) (by decide) (lenOf pd__28Ljava_2flang_2fObject_3b_29Z rfl) rfl rfl rfl (W := 0) rfl (by decide) (by decide) (by decide) (by decide) all0 rfl ?_
        intro T1042 h1042 v1042 X1042 K1042 hQ1042
        obtain rfl := hQ1042
        show OGo _ _ _ _ T1042 (mkF m 245 #[.val (.int k1), .val (.int u1), .val (.int k2), .val (.int u2), .val (.int pm), .val (.int (1 : Int32)), .val (.int (1 : Int32)), .val (.int ((XT.ushr pm (2 : Int32)) &&& (3 : Int32))), .val (.ref r966), .val (.ref r968), .val (.ref r970), .val (.ref r972), .val (.int (1 : Int32)), .val (.int (1 : Int32)), .val (.ref b974), .val (.ref b987), .val (.ref b987), .val (.int (1 : Int32)), .val (.int (own_eq2 (own_mk k1) (own_mk u1) (own_mk k1) (own_mk u1)))] [(.int (own_eq2 (own_mk k1) (own_mk u1) (own_mk k1) (own_mk u1)))])
        refine og_iload X1042 247 at_245 rfl rfl ?_
        refine og_icmpN X1042 250 at_247 (XT.ii_ne_f (own_eq2_1 rfl rfl)) rfl ?_
        refine og_iconst X1042 251 (1 : Int32) at_250 rfl rfl ?_
        refine og_goto X1042 255 at_251 (by decide) (by decide) ?_
        refine own_retZ X1042 at_255 hret rfl (by decide) (by decide) ?_
        exact rfl
      · -- not
        refine og_ifY X997 179 at_152 (XT.i0_ne_t hc1000) (by decide) (by decide) ?_
        refine og_iload X997 181 at_179 rfl rfl ?_
        refine og_iconst X997 182 (1 : Int32) at_181 rfl rfl ?_
        by_cases hc1043 : ((XT.ushr pm (2 : Int32)) &&& (3 : Int32)) = (1 : Int32)
        · -- ((XT.ushr pm (2 : Int32)) &&& (3 : Int32)) = (1 : Int32)
          refine og_icmpN X997 185 at_182 (XT.ii_ne_f hc1043) rfl ?_
          refine og_aconstNull X997 186 at_185 rfl ?_
          refine og_astore X997 188 #[.val (.int k1), .val (.int u1), .val (.int k2), .val (.int u2), .val (.int pm), .val (.int (1 : Int32)), .val (.int (1 : Int32)), .val (.int ((XT.ushr pm (2 : Int32)) &&& (3 : Int32))), .val (.ref r966), .val (.ref r968), .val (.ref r970), .val (.ref r972), .val (.int (1 : Int32)), .val (.int (1 : Int32)), .val (.ref b974), .val (.ref b987), .val .null, .unset, .unset] at_186 rfl rfl rfl ?_
          refine og_iconst X997 189 (0 : Int32) at_188 rfl rfl ?_
          refine og_istore X997 191 #[.val (.int k1), .val (.int u1), .val (.int k2), .val (.int u2), .val (.int pm), .val (.int (1 : Int32)), .val (.int (1 : Int32)), .val (.int ((XT.ushr pm (2 : Int32)) &&& (3 : Int32))), .val (.ref r966), .val (.ref r968), .val (.ref r970), .val (.ref r972), .val (.int (1 : Int32)), .val (.int (1 : Int32)), .val (.ref b974), .val (.ref b987), .val .null, .val (.int (0 : Int32)), .unset] at_189 rfl rfl ?_
          refine og_goto X997 217 at_191 (by decide) (by decide) ?_
          refine og_aload X997 219 at_217 rfl rfl rfl ?_
          refine og_aload X997 221 at_219 rfl rfl rfl ?_
          have f1044 := E974.keep K984
          have f1045 := f1044.keep K987
          have f1046 := f1045.keep K997
          refine own_virt X997 224 (a := b974) (argsL := [.null]) (rest := []) at_221 f1046 (fun _ hZ => notFace_of_selects (args := #[]) (mvT hZ (hw _ (List.mem_of_getElem? (i := 73) rfl)))) (rm_eqN l Z a0 hw n0 h997 hWd [] X997.old b974  ) (hw _ (List.mem_of_getElem? (i := 70) rfl)) (hw _ (List.mem_of_getElem? (i := 71) rfl)) (hw _ (List.mem_of_getElem? (i := 73) rfl)) (hw _ (List.mem_of_getElem? (i := 72) rfl)) (hw _ (List.mem_of_getElem? (i := 56) rfl)) (hw _ (List.mem_of_getElem? (i := 74) rfl)) (by decide) (lenOf pd__28Ljava_2flang_2fObject_3b_29Z rfl) rfl rfl rfl (W := 0) rfl (by decide) (by decide) (by decide) (by decide) all0 rfl ?_
          intro T1047 h1047 v1047 X1047 K1047 hQ1047
          obtain rfl := hQ1047
          show OGo _ _ _ _ T1047 (mkF m 224 #[.val (.int k1), .val (.int u1), .val (.int k2), .val (.int u2), .val (.int pm), .val (.int (1 : Int32)), .val (.int (1 : Int32)), .val (.int ((XT.ushr pm (2 : Int32)) &&& (3 : Int32))), .val (.ref r966), .val (.ref r968), .val (.ref r970), .val (.ref r972), .val (.int (1 : Int32)), .val (.int (1 : Int32)), .val (.ref b974), .val (.ref b987), .val .null, .val (.int (0 : Int32)), .unset] [(.int (0 : Int32))])
          refine og_istore X1047 226 #[.val (.int k1), .val (.int u1), .val (.int k2), .val (.int u2), .val (.int pm), .val (.int (1 : Int32)), .val (.int (1 : Int32)), .val (.int ((XT.ushr pm (2 : Int32)) &&& (3 : Int32))), .val (.ref r966), .val (.ref r968), .val (.ref r970), .val (.ref r972), .val (.int (1 : Int32)), .val (.int (1 : Int32)), .val (.ref b974), .val (.ref b987), .val .null, .val (.int (0 : Int32)), .val (.int (0 : Int32))] at_224 rfl rfl ?_
          refine og_iload X1047 228 at_226 rfl rfl ?_
          refine og_ifY X1047 256 at_228 (XT.i0_ne_t hc1000) (by decide) (by decide) ?_
          refine og_iload X1047 258 at_256 rfl rfl ?_
          refine og_iload X1047 260 at_258 rfl rfl ?_
          refine og_icmpN X1047 263 at_260 (XT.ii_ne_f (by decide)) rfl ?_
          refine og_iconst X1047 264 (1 : Int32) at_263 rfl rfl ?_
          refine og_goto X1047 268 at_264 (by decide) (by decide) ?_
          refine own_retZ X1047 at_268 hret rfl (by decide) (by decide) ?_
          exact rfl
        · -- not
          refine og_icmpY X997 194 at_182 (XT.ii_ne_t hc1043) (by decide) (by decide) ?_
          refine og_iload X997 196 at_194 rfl rfl ?_
          refine og_iconst X997 197 (2 : Int32) at_196 rfl rfl ?_
          by_cases hc1048 : ((XT.ushr pm (2 : Int32)) &&& (3 : Int32)) = (2 : Int32)
          · -- ((XT.ushr pm (2 : Int32)) &&& (3 : Int32)) = (2 : Int32)
            refine og_icmpN X997 200 at_197 (XT.ii_ne_f hc1048) rfl ?_
            refine og_aload X997 202 at_200 rfl rfl rfl ?_
            refine og_astore X997 204 #[.val (.int k1), .val (.int u1), .val (.int k2), .val (.int u2), .val (.int pm), .val (.int (1 : Int32)), .val (.int (1 : Int32)), .val (.int ((XT.ushr pm (2 : Int32)) &&& (3 : Int32))), .val (.ref r966), .val (.ref r968), .val (.ref r970), .val (.ref r972), .val (.int (1 : Int32)), .val (.int (1 : Int32)), .val (.ref b974), .val (.ref b987), .val (.ref r970), .unset, .unset] at_202 rfl rfl rfl ?_
            refine og_iconst X997 205 (0 : Int32) at_204 rfl rfl ?_
            refine og_istore X997 207 #[.val (.int k1), .val (.int u1), .val (.int k2), .val (.int u2), .val (.int pm), .val (.int (1 : Int32)), .val (.int (1 : Int32)), .val (.int ((XT.ushr pm (2 : Int32)) &&& (3 : Int32))), .val (.ref r966), .val (.ref r968), .val (.ref r970), .val (.ref r972), .val (.int (1 : Int32)), .val (.int (1 : Int32)), .val (.ref b974), .val (.ref b987), .val (.ref r970), .val (.int (0 : Int32)), .unset] at_205 rfl rfl ?_
            refine og_goto X997 217 at_207 (by decide) (by decide) ?_
            refine og_aload X997 219 at_217 rfl rfl rfl ?_
            refine og_aload X997 221 at_219 rfl rfl rfl ?_
            have f1049 := E974.keep K984
            have f1050 := f1049.keep K987
            have f1051 := f1050.keep K997
            have f1052 := f993.keep K997
            refine own_virt X997 224 (a := b974) (argsL := [(.ref r970)]) (rest := []) at_221 f1051 (fun _ hZ => notFace_of_selects (args := #[]) (mvT hZ (hw _ (List.mem_of_getElem? (i := 73) rfl)))) (rm_eqS l Z a0 hw n0 h997 hWd [] X997.old b974 r970 f1052 ) (hw _ (List.mem_of_getElem? (i := 70) rfl)) (hw _ (List.mem_of_getElem? (i := 71) rfl)) (hw _ (List.mem_of_getElem? (i := 73) rfl)) (hw _ (List.mem_of_getElem? (i := 72) rfl)) (hw _ (List.mem_of_getElem? (i := 56) rfl)) (hw _ (List.mem_of_getElem? (i := 74) rfl)) (by decide) (lenOf pd__28Ljava_2flang_2fObject_3b_29Z rfl) rfl rfl rfl (W := 0) rfl (by decide) (by decide) (by decide) (by decide) all0 rfl ?_
            intro T1053 h1053 v1053 X1053 K1053 hQ1053
            obtain rfl := hQ1053
            show OGo _ _ _ _ T1053 (mkF m 224 #[.val (.int k1), .val (.int u1), .val (.int k2), .val (.int u2), .val (.int pm), .val (.int (1 : Int32)), .val (.int (1 : Int32)), .val (.int ((XT.ushr pm (2 : Int32)) &&& (3 : Int32))), .val (.ref r966), .val (.ref r968), .val (.ref r970), .val (.ref r972), .val (.int (1 : Int32)), .val (.int (1 : Int32)), .val (.ref b974), .val (.ref b987), .val (.ref r970), .val (.int (0 : Int32)), .unset] [(.int (0 : Int32))])
            refine og_istore X1053 226 #[.val (.int k1), .val (.int u1), .val (.int k2), .val (.int u2), .val (.int pm), .val (.int (1 : Int32)), .val (.int (1 : Int32)), .val (.int ((XT.ushr pm (2 : Int32)) &&& (3 : Int32))), .val (.ref r966), .val (.ref r968), .val (.ref r970), .val (.ref r972), .val (.int (1 : Int32)), .val (.int (1 : Int32)), .val (.ref b974), .val (.ref b987), .val (.ref r970), .val (.int (0 : Int32)), .val (.int (0 : Int32))] at_224 rfl rfl ?_
            refine og_iload X1053 228 at_226 rfl rfl ?_
            refine og_ifY X1053 256 at_228 (XT.i0_ne_t hc1000) (by decide) (by decide) ?_
            refine og_iload X1053 258 at_256 rfl rfl ?_
            refine og_iload X1053 260 at_258 rfl rfl ?_
            refine og_icmpN X1053 263 at_260 (XT.ii_ne_f (by decide)) rfl ?_
            refine og_iconst X1053 264 (1 : Int32) at_263 rfl rfl ?_
            refine og_goto X1053 268 at_264 (by decide) (by decide) ?_
            refine own_retZ X1053 at_268 hret rfl (by decide) (by decide) ?_
            exact rfl
          · -- not
            refine og_icmpY X997 210 at_197 (XT.ii_ne_t hc1048) (by decide) (by decide) ?_
            refine og_aload X997 212 at_210 rfl rfl rfl ?_
            refine og_astore X997 214 #[.val (.int k1), .val (.int u1), .val (.int k2), .val (.int u2), .val (.int pm), .val (.int (1 : Int32)), .val (.int (1 : Int32)), .val (.int ((XT.ushr pm (2 : Int32)) &&& (3 : Int32))), .val (.ref r966), .val (.ref r968), .val (.ref r970), .val (.ref r972), .val (.int (1 : Int32)), .val (.int (1 : Int32)), .val (.ref b974), .val (.ref b987), .val (.ref b974), .unset, .unset] at_212 rfl rfl rfl ?_
            refine og_iconst X997 215 (1 : Int32) at_214 rfl rfl ?_
            refine og_istore X997 217 #[.val (.int k1), .val (.int u1), .val (.int k2), .val (.int u2), .val (.int pm), .val (.int (1 : Int32)), .val (.int (1 : Int32)), .val (.int ((XT.ushr pm (2 : Int32)) &&& (3 : Int32))), .val (.ref r966), .val (.ref r968), .val (.ref r970), .val (.ref r972), .val (.int (1 : Int32)), .val (.int (1 : Int32)), .val (.ref b974), .val (.ref b987), .val (.ref b974), .val (.int (1 : Int32)), .unset] at_215 rfl rfl ?_
            refine og_aload X997 219 at_217 rfl rfl rfl ?_
            refine og_aload X997 221 at_219 rfl rfl rfl ?_
            have f1054 := E974.keep K984
            have f1055 := f1054.keep K987
            have f1056 := f1055.keep K997
            have f1057 := f985.keep K987 nin0
            have f1058 := f1057.keep K997 (ninS (Nat.ne_of_lt (Nat.lt_of_lt_of_le (Nat.lt_of_lt_of_le U974 K984.1) G987)) nin0)
            have f1059 := f986.keep K987 nin0
            have f1060 := f1059.keep K997 (ninS (Nat.ne_of_lt (Nat.lt_of_lt_of_le (Nat.lt_of_lt_of_le U974 K984.1) G987)) nin0)
            have f1061 := f967.keep K968 all0
            have f1062 := f1061.keep K970 all0
            have f1063 := f1062.keep K972 all0
            have f1064 := f1063.keep K974 all0
            have f1065 := f1064.keep K984 (allS (Or.inl (Nat.le_trans (Nat.le_trans (Nat.le_trans K968.1 K970.1) K972.1) G974)) all0)
            have f1066 := f1065.keep K987 all0
            have f1067 := f1066.keep K997 (allS (Or.inl (Nat.le_trans (Nat.le_trans (Nat.le_trans (Nat.le_trans (Nat.le_trans K968.1 K970.1) K972.1) K974.1) K984.1) G987)) all0)
            have f1068 := f969.keep K970 all0
            have f1069 := f1068.keep K972 all0
            have f1070 := f1069.keep K974 all0
            have f1071 := f1070.keep K984 (allS (Or.inl (Nat.le_trans (Nat.le_trans K970.1 K972.1) G974)) all0)
            have f1072 := f1071.keep K987 all0
            have f1073 := f1072.keep K997 (allS (Or.inl (Nat.le_trans (Nat.le_trans (Nat.le_trans (Nat.le_trans K970.1 K972.1) K974.1) K984.1) G987)) all0)
            refine own_virt X997 224 (a := b974) (argsL := [(.ref b974)]) (rest := []) at_221 f1056 (fun _ hZ => notFace_of_selects (args := #[]) (mvT hZ (hw _ (List.mem_of_getElem? (i := 73) rfl)))) (rm_eqK l Z a0 hw n0 h997 hWd [] X997.old b974 b974 r966 r968 r966 r968 (own_mk k1) (own_mk u1) (own_mk k1) (own_mk u1) f1056 f1058 f1060 f1058 f1060 f1067.top f1073.top f1067.top f1073.top ) (hw _ (List.mem_of_getElem? (i := 70) rfl)) (hw _ (List.mem_of_getElem? (i := 71) rfl)) (hw _ (List.mem_of_getElem? (i := 73) rfl)) (hw _ (List.mem_of_getElem? (i := 72) rfl)) (hw _ (List.mem_of_getElem? (i := 56) rfl)) (hw _ (List.mem_of_getElem? (i := 74) rfl)) (by decide) (lenOf pd__28Ljava_2flang_2fObject_3b_29Z rfl) rfl rfl rfl (W := 0) rfl (by decide) (by decide) (by decide) (by decide) all0 rfl ?_
            intro T1074 h1074 v1074 X1074 K1074 hQ1074
            obtain rfl := hQ1074
            show OGo _ _ _ _ T1074 (mkF m 224 #[.val (.int k1), .val (.int u1), .val (.int k2), .val (.int u2), .val (.int pm), .val (.int (1 : Int32)), .val (.int (1 : Int32)), .val (.int ((XT.ushr pm (2 : Int32)) &&& (3 : Int32))), .val (.ref r966), .val (.ref r968), .val (.ref r970), .val (.ref r972), .val (.int (1 : Int32)), .val (.int (1 : Int32)), .val (.ref b974), .val (.ref b987), .val (.ref b974), .val (.int (1 : Int32)), .unset] [(.int (own_eq2 (own_mk k1) (own_mk u1) (own_mk k1) (own_mk u1)))])
            refine og_istore X1074 226 #[.val (.int k1), .val (.int u1), .val (.int k2), .val (.int u2), .val (.int pm), .val (.int (1 : Int32)), .val (.int (1 : Int32)), .val (.int ((XT.ushr pm (2 : Int32)) &&& (3 : Int32))), .val (.ref r966), .val (.ref r968), .val (.ref r970), .val (.ref r972), .val (.int (1 : Int32)), .val (.int (1 : Int32)), .val (.ref b974), .val (.ref b987), .val (.ref b974), .val (.int (1 : Int32)), .val (.int (own_eq2 (own_mk k1) (own_mk u1) (own_mk k1) (own_mk u1)))] at_224 rfl rfl ?_
            refine og_iload X1074 228 at_226 rfl rfl ?_
            refine og_ifY X1074 256 at_228 (XT.i0_ne_t hc1000) (by decide) (by decide) ?_
            refine og_iload X1074 258 at_256 rfl rfl ?_
            refine og_iload X1074 260 at_258 rfl rfl ?_
            refine og_icmpN X1074 263 at_260 (XT.ii_ne_f (own_eq2_1 rfl rfl)) rfl ?_
            refine og_iconst X1074 264 (1 : Int32) at_263 rfl rfl ?_
            refine og_goto X1074 268 at_264 (by decide) (by decide) ?_
            refine own_retZ X1074 at_268 hret rfl (by decide) (by decide) ?_
            exact rfl
theorem own_held {s : State} {own : String} {i : Nat} (h : constHeld s own i) : Jvm.Lit.constHeld s own i := h
set_option maxRecDepth 65536 in
set_option maxHeartbeats 40000000 in
theorem comes_1 {Post : Tables → Env → Array Value → State → Outcome → State → Prop} (hpost : ∀ tb e args s v u, (limb_1_1.after args s (.returned v) u = true ∧ limb_1_2.after args s (.returned v) u = true ∧ True) → Jvm.ReturnedEndW s (.returned v) u (Jvm.fieldLocs frame_1_writes args s ++ Jvm.arrayLocs frame_1_arrays args s ++ Jvm.staticLocs frame_1_statics s) 40 1216 → Post tb e args s (.returned v) u) :
    ArmFor flags0 classFile x code maxLocals ret World_1 tables_1 room_1 Calls_1 rest_1 Pre_1 Post := by
  intro l hfl _ _ p e ha hc hk s m args below hf hA hF happ hP
  obtain ⟨hcalls, hrest, hpre⟩ := hP
  obtain ⟨-, -, -, hnamed, -, -, -, hat⟩ := (Spec.applies_iff hf).mp happ
  obtain ⟨hg, hn⟩ := and_e (Cond.before_iff.mp (show (Jvm.Cond.and given_1 narrow_1).before args s = true from hpre))
  obtain ⟨hcount, g0⟩ := and_e hg
  obtain ⟨i0, g1⟩ := and_e g0
  obtain ⟨i1, g2⟩ := and_e g1
  obtain ⟨i2, g3⟩ := and_e g2
  obtain ⟨i3, g4⟩ := and_e g3
  have i4 := g4
  obtain ⟨w0, w1, w2, w3, w4, rfl⟩ : ∃ w0 w1 w2 w3 w4 : Value, args = #[w0, w1, w2, w3, w4] := by
    have hs : args.size = 5 := by simpa [Cond.value, given_1] using hcount
    obtain ⟨L⟩ := args
    match L, hs with
    | [w0, w1, w2, w3, w4], _ => exact ⟨w0, w1, w2, w3, w4, rfl⟩
  have hw := fun d (hd : d ∈ tables_1) => atoms_spec (ws := Jvm.Cond.code x code maxLocals ret :: tables_1) hat d (List.mem_cons_of_mem _ hd)
  obtain ⟨hsets, hown0⟩ := atoms_of _ (rest_1_c_eq ▸ (show rest_1_c.before _ s = true from hrest))
  obtain ⟨x0, e0⟩ := is_v i0
  obtain rfl : w0 = (.int x0) := Option.some.inj e0
  obtain ⟨x1, e1⟩ := is_v i1
  obtain rfl : w1 = (.int x1) := Option.some.inj e1
  obtain ⟨x2, e2⟩ := is_v i2
  obtain rfl : w2 = (.int x2) := Option.some.inj e2
  obtain ⟨x3, e3⟩ := is_v i3
  obtain rfl : w3 = (.int x3) := Option.some.inj e3
  obtain ⟨x4, e4⟩ := is_v i4
  obtain rfl : w4 = (.int x4) := Option.some.inj e4
  have hEL : EW s #[(.int x0), (.int x1), (.int x2), (.int x3), (.int x4)] own_EL := (EW.cons (hw _ (List.mem_of_getElem? (i := 18) rfl)) (by decide) EW.nil)
  obtain ⟨r0, f0⟩ := is_v (Cond.before_iff.mp (hsets _ (List.mem_of_getElem? (i := 1) rfl)))
  have t0 : own_sti s "java/lang/String" "COMPACT_STRINGS" "Z" = r0 := own_sti_of f0
  have S0 := Sta.start f0 (Or.inl (hsets _ (List.mem_of_getElem? (i := 0) rfl)))
  have c0 : ¬ (r0 = (0 : Int32)) := gotF (Cond.eq_ints f0 (Term.int_eval (0))) (not_v (Cond.before_iff.mp (hsets _ (List.mem_of_getElem? (i := 2) rfl))))
  have hWd : OWorld s #[(.int x0), (.int x1), (.int x2), (.int x3), (.int x4)] := ⟨hEL, ⟨by rw [t0]; exact S0, by rw [t0]; exact c0⟩⟩
  have hCH : CHv s own_EL s.vm s.heap := CHv.start hEL (fun p hp => own_held (hcalls.1 p hp)) (by have := (hsets _ (List.mem_of_getElem? (i := 2) rfl)); exact this) (hw _ (List.mem_of_getElem? (i := 19) rfl)) (hw _ (List.mem_of_getElem? (i := 5) rfl))
  obtain ⟨n, o, h1, h2, h3, v, L, rfl, ⟨N, -, hQ⟩, -, hqW, hqN⟩ := rm0 l s _ hw s.heap.size s.heap hWd tables_1 (Old.start s) x0 x1 x2 x3 x4 p e ha hc hk s m _ below hf ((Spec.applies_iff_loose hf).mp happ).1 ⟨rfl, State.Warmed39.refl s, rfl, hCH, fun _ q => nomatch q⟩ trivial
  obtain rfl := hQ
  refine ⟨n, _, h1, h2, h3, hpost _ _ _ _ _ _ ⟨Cond.after_iff.mpr rfl, Cond.after_iff.mpr (eq_i res_at (Term.int_eval (1)) rfl), trivial⟩ ⟨hqW.1, hqW.2.1, hqW.2.2.1, (hqW.2.2.2.sift fun y hy => Or.inr (N y hy)).mono (by decide) (by decide)⟩⟩
theorem main_1_1 : Claimed_1_1 := comes_1 fun _ _ _ _ _ _ h hF => ⟨h.1, hF⟩
theorem main_1_2 : Claimed_1_2 := comes_1 fun _ _ _ _ _ _ h hF => ⟨h.2.1, hF⟩
end Jvm.Pilot.@@N@@
namespace Jvm.Pilot.@@N@@
open Jvm Jvm.ClassFile Sem Op Lib Jvm.Free Jvm.Stand Jvm.Pilot.@@N@@.Jvm.D
/-! MADE BY PROGRAM (witnessworld.py) out of the Statement's table words and the real class files: 21 classes; the members and pool entries that the words name. The judged class is class 1, her method 3. -/
namespace start1
open Jvm.ClassFile
def u (s : String) : CpInfo := .utf8 (stringToUtf16 s)
/-- a pool by its gaps: so many unusable entries, then the entry; so many at the end -/
def gap : Nat → List CpInfo → List CpInfo
  | 0, r => r
  | n + 1, r => .unusable :: gap n r
def poolList (es : List (Nat × CpInfo)) (last : Nat) : List CpInfo := es.foldr (fun e r => gap e.1 (e.2 :: r)) (gap last [])
def pool (es : List (Nat × CpInfo)) (last : Nat) : Array CpInfo := ⟨poolList es last⟩
def fileOf (pool : Array CpInfo) (this : Nat) (attrs : Array Attribute := #[]) (ms : Array MethodInfo := #[]) (fl : Nat := 33) (sup : Nat := 0) (ifs : Array Nat := #[]) (fds : Array FieldInfo := #[]) : ClassFile where
  minorVersion := 0
  majorVersion := 65
  constantPool := pool
  accessFlags := fl
  thisClass := this
  superClass := sup
  interfaces := ifs
  fields := fds
  methods := ms
  attributes := attrs
def plain (name : String) (sup : Option ClassId) : Class where
  name := name
  kind := .ordinary
  loader := none
  accessFlags := 33
  super := sup
  interfaces := #[]
  cf := none
  fields := #[]
  methods := #[]
  instanceTypes := #[]
  staticTypes := #[]
  resolved := #[]
  callSites := []
  init := .initialized
  statics := none
  mirror := none

def pool0 : Array CpInfo := pool [(5, u "<init>"), (0, u "()V"), (1, .class_ 10), (1, u "java/lang/Object")] 113

def k0c0 : Code := { maxStack := 0, maxLocals := 1, code := object_method_1_code, exceptionTable := #[], attributes := #[] }
def k0m0 : Method := { name := "<init>", desc := "()V", sig := { parameters := [], returnType := none }, accessFlags := 1, code := some k0c0 }
/-- java/lang/Object -/
def k0 : Class := { plain "java/lang/Object" none with
  accessFlags := 33
  interfaces := #[]
  cf := some (fileOf pool0 8 #[] #[{ accessFlags := 1, nameIndex := 5, descriptorIndex := 6, attributes := #[] }] 33 0 #[] #[])
  fields := #[]
  methods := #[k0m0]
  instanceTypes := #[]
  staticTypes := #[]
  resolved := Array.replicate 124 none
  statics := none }

def pool1 : Array CpInfo := pool [(2, .class_ 4), (1, u "java/lang/Object"), (0, u "<init>"), (0, u "()V"), (0, .class_ 8), (0, u "java/lang/String"), (0, .methodref 7 10), (0, .nameAndType 5 11), (0, u "([C)V"), (0, .methodref 7 13), (0, .nameAndType 14 15), (0, u "valueOf"), (0, u "(C)Ljava/lang/String;"), (0, .integer 65535), (0, .integer 16777215), (0, .methodref 19 20), (0, .class_ 21), (0, .nameAndType 22 23), (0, u "com/example/chitragupta/chitragupta/model/HelpdeskSiteEqualsPinLaw"), (0, u "str"), (0, u "(I)Ljava/lang/String;"), (0, .methodref 19 25), (0, .nameAndType 26 27), (0, u "sameStr"), (0, u "(II)Z"), (0, .class_ 29), (0, u "com/example/chitragupta/chitragupta/model/HelpdeskSite"), (0, .methodref 28 31), (0, .nameAndType 5 32), (0, u "(Ljava/lang/String;Ljava/lang/String;)V"), (0, .methodref 28 34), (0, .nameAndType 35 36), (0, u "equals"), (0, u "(Ljava/lang/Object;)Z"), (3, u "law"), (0, u "(IIIII)Z")] 2

def k1m0 : Method := { name := "<init>", desc := "()V", sig := { parameters := [], returnType := none }, accessFlags := 1, code := none }
def k1c1 : Code := { maxStack := 6, maxLocals := 5, code := method_2_code, exceptionTable := #[], attributes := #[] }
def k1m1 : Method := { name := "str", desc := "(I)Ljava/lang/String;", sig := { parameters := [.int], returnType := some (.object "java/lang/String") }, accessFlags := 10, code := some k1c1 }
def k1c2 : Code := { maxStack := 2, maxLocals := 5, code := method_3_code, exceptionTable := #[], attributes := #[] }
def k1m2 : Method := { name := "sameStr", desc := "(II)Z", sig := { parameters := [.int, .int], returnType := some .boolean }, accessFlags := 10, code := some k1c2 }
def k1c3 : Code := { maxStack := 4, maxLocals := 19, code := code, exceptionTable := #[], attributes := #[] }
def k1m3 : Method := { name := "law", desc := "(IIIII)Z", sig := { parameters := [.int, .int, .int, .int, .int], returnType := some .boolean }, accessFlags := 9, code := some k1c3 }
/-- com/example/chitragupta/chitragupta/model/HelpdeskSiteEqualsPinLaw -/
def k1 : Class := { plain "com/example/chitragupta/chitragupta/model/HelpdeskSiteEqualsPinLaw" (some 0) with
  accessFlags := 49
  interfaces := #[]
  cf := some (fileOf pool1 19 #[] #[{ accessFlags := 1, nameIndex := 5, descriptorIndex := 6, attributes := #[] }, { accessFlags := 10, nameIndex := 22, descriptorIndex := 23, attributes := #[] }, { accessFlags := 10, nameIndex := 26, descriptorIndex := 27, attributes := #[] }, { accessFlags := 9, nameIndex := 40, descriptorIndex := 41, attributes := #[] }] 49 2 #[] #[])
  fields := #[]
  methods := #[k1m0, k1m1, k1m2, k1m3]
  instanceTypes := #[]
  staticTypes := #[]
  resolved := Array.replicate 44 none
  statics := none }

def pool2 : Array CpInfo := pool [(1, .class_ 2), (0, u "java/io/Serializable"), (0, .class_ 4), (0, u "java/lang/Object")] 2

/-- java/io/Serializable -/
def k2 : Class := { plain "java/io/Serializable" (some 0) with
  accessFlags := 1537
  interfaces := #[]
  cf := some (fileOf pool2 1 #[] #[] 1537 3 #[] #[])
  fields := #[]
  methods := #[]
  instanceTypes := #[]
  staticTypes := #[]
  resolved := Array.replicate 7 none
  statics := none }

def pool3 : Array CpInfo := pool [(1, .class_ 2), (0, u "java/lang/Comparable"), (0, .class_ 4), (0, u "java/lang/Object")] 7

/-- java/lang/Comparable -/
def k3 : Class := { plain "java/lang/Comparable" (some 0) with
  accessFlags := 1537
  interfaces := #[]
  cf := some (fileOf pool3 1 #[] #[] 1537 3 #[] #[])
  fields := #[]
  methods := #[]
  instanceTypes := #[]
  staticTypes := #[]
  resolved := Array.replicate 12 none
  statics := none }

def pool4 : Array CpInfo := pool [(2, .class_ 4), (1, u "java/lang/CharSequence"), (42, .class_ 48), (0, u "java/lang/CharSequence$1CodePointIterator"), (10, .class_ 60), (0, u "java/lang/CharSequence$1CharIterator"), (5, .class_ 67), (0, u "java/lang/Object")] 63

/-- java/lang/CharSequence -/
def k4 : Class := { plain "java/lang/CharSequence" (some 0) with
  accessFlags := 1537
  interfaces := #[]
  cf := some (fileOf pool4 2 #[.nestMembers #[47, 59]] #[] 1537 66 #[] #[])
  fields := #[]
  methods := #[]
  instanceTypes := #[]
  staticTypes := #[]
  resolved := Array.replicate 131 none
  statics := none }

def pool5 : Array CpInfo := pool [(1, .class_ 2), (0, u "java/lang/constant/Constable"), (0, .class_ 4), (0, u "java/lang/Object")] 6

/-- java/lang/constant/Constable -/
def k5 : Class := { plain "java/lang/constant/Constable" (some 0) with
  accessFlags := 1537
  interfaces := #[]
  cf := some (fileOf pool5 1 #[] #[] 1537 3 #[] #[])
  fields := #[]
  methods := #[]
  instanceTypes := #[]
  staticTypes := #[]
  resolved := Array.replicate 11 none
  statics := none }

def pool6 : Array CpInfo := pool [(1, .class_ 2), (0, u "java/lang/constant/ConstantDesc"), (0, .class_ 4), (0, u "java/lang/Object")] 32

/-- java/lang/constant/ConstantDesc -/
def k6 : Class := { plain "java/lang/constant/ConstantDesc" (some 0) with
  accessFlags := 1537
  interfaces := #[]
  cf := some (fileOf pool6 1 #[] #[] 1537 3 #[] #[])
  fields := #[]
  methods := #[]
  instanceTypes := #[]
  staticTypes := #[]
  resolved := Array.replicate 37 none
  statics := none }

def pool7 : Array CpInfo := pool [(1, .methodref 2 3), (0, .class_ 4), (0, .nameAndType 5 6), (0, u "java/lang/Object"), (0, u "<init>"), (0, u "()V"), (0, .string 8), (0, u ""), (0, .fieldref 10 11), (0, .class_ 12), (0, .nameAndType 13 14), (0, u "java/lang/String"), (0, u "value"), (0, u "[B"), (0, .fieldref 10 16), (0, .nameAndType 17 18), (0, u "coder"), (0, u "B"), (2, u "hash"), (0, u "I"), (2, u "hashIsZero"), (0, u "Z"), (0, .methodref 10 28), (0, .nameAndType 5 29), (0, u "([CIILjava/lang/Void;)V"), (8, .fieldref 10 39), (0, .nameAndType 40 26), (0, u "COMPACT_STRINGS"), (1, .class_ 44), (1, u "java/lang/StringUTF16"), (0, u "compress"), (1, .methodref 42 48), (0, .nameAndType 49 50), (0, u "coderFromArrayLen"), (0, u "([BI)B"), (2, u "toBytes"), (53, .class_ 109), (1, u "java/lang/StringLatin1"), (67, .methodref 42 178), (0, .nameAndType 45 179), (0, u "([CII)[B"), (29, .methodref 10 210), (0, .nameAndType 5 211), (0, u "([BB)V"), (157, u "(C)Z"), (171, .methodref 107 542), (0, .nameAndType 543 544), (0, u "equals"), (0, u "([B[B)Z"), (28, u "(Ljava/lang/Object;)Z"), (1, .class_ 576), (0, u "java/lang/CharSequence"), (22, u "CASE_INSENSITIVE_ORDER"), (0, u "Ljava/util/Comparator;"), (181, u "valueOf"), (0, u "(C)Ljava/lang/String;"), (226, u "([C)V"), (4, .methodref 107 1016), (0, .nameAndType 1017 369), (0, u "canEncode"), (0, .methodref 107 1019), (0, .nameAndType 53 1020), (0, u "(C)[B"), (80, u "serialPersistentFields"), (0, u "[Ljava/io/ObjectStreamField;"), (0, .class_ 1104), (0, u "java/lang/String$CaseInsensitiveComparator"), (1, .class_ 1107), (0, u "java/io/Serializable"), (0, .class_ 1109), (0, u "java/lang/Comparable"), (0, .class_ 1111), (0, u "java/lang/constant/Constable"), (0, .class_ 1113), (0, u "java/lang/constant/ConstantDesc"), (2, u "serialVersionUID"), (0, u "J"), (3, u "REPL"), (0, u "C"), (2, u "LATIN1"), (1, u "UTF16")] 323

def k7m0 : Method := { name := "<init>", desc := "()V", sig := { parameters := [], returnType := none }, accessFlags := 1, code := none }
def k7c1 : Code := { maxStack := 5, maxLocals := 2, code := jdk_42_method_3_code, exceptionTable := #[], attributes := #[] }
def k7m1 : Method := { name := "<init>", desc := "([C)V", sig := { parameters := [(.array .char)], returnType := none }, accessFlags := 1, code := some k7c1 }
def k7c2 : Code := { maxStack := 2, maxLocals := 3, code := jdk_42_method_66_code, exceptionTable := #[], attributes := #[] }
def k7m2 : Method := { name := "equals", desc := "(Ljava/lang/Object;)Z", sig := { parameters := [(.object "java/lang/Object")], returnType := some .boolean }, accessFlags := 1, code := some k7c2 }
def k7c3 : Code := { maxStack := 4, maxLocals := 1, code := jdk_42_method_139_code, exceptionTable := #[], attributes := #[] }
def k7m3 : Method := { name := "valueOf", desc := "(C)Ljava/lang/String;", sig := { parameters := [.char], returnType := some (.object "java/lang/String") }, accessFlags := 9, code := some k7c3 }
def k7c4 : Code := { maxStack := 4, maxLocals := 6, code := jdk_42_method_149_code, exceptionTable := #[], attributes := #[] }
def k7m4 : Method := { name := "<init>", desc := "([CIILjava/lang/Void;)V", sig := { parameters := [(.array .char), .int, .int, (.object "java/lang/Void")], returnType := none }, accessFlags := 2, code := some k7c4 }
def k7c5 : Code := { maxStack := 2, maxLocals := 3, code := jdk_42_method_151_code, exceptionTable := #[], attributes := #[] }
def k7m5 : Method := { name := "<init>", desc := "([BB)V", sig := { parameters := [(.array .byte), .byte], returnType := none }, accessFlags := 0, code := some k7c5 }
/-- java/lang/String -/
def k7 : Class := { plain "java/lang/String" (some 0) with
  accessFlags := 49
  interfaces := #[2, 3, 4, 5, 6]
  cf := some (fileOf pool7 10 #[.nestMembers #[1103]] #[{ accessFlags := 1, nameIndex := 5, descriptorIndex := 6, attributes := #[] }, { accessFlags := 1, nameIndex := 5, descriptorIndex := 1010, attributes := #[] }, { accessFlags := 1, nameIndex := 543, descriptorIndex := 573, attributes := #[] }, { accessFlags := 9, nameIndex := 782, descriptorIndex := 783, attributes := #[] }, { accessFlags := 2, nameIndex := 5, descriptorIndex := 29, attributes := #[] }, { accessFlags := 0, nameIndex := 5, descriptorIndex := 211, attributes := #[] }] 49 2 #[1106, 1108, 575, 1110, 1112] #[{ accessFlags := 18, nameIndex := 13, descriptorIndex := 14, attributes := #[] }, { accessFlags := 18, nameIndex := 17, descriptorIndex := 18, attributes := #[] }, { accessFlags := 2, nameIndex := 21, descriptorIndex := 22, attributes := #[] }, { accessFlags := 2, nameIndex := 25, descriptorIndex := 26, attributes := #[] }, { accessFlags := 26, nameIndex := 1116, descriptorIndex := 1117, attributes := #[] }, { accessFlags := 24, nameIndex := 40, descriptorIndex := 26, attributes := #[] }, { accessFlags := 26, nameIndex := 1101, descriptorIndex := 1102, attributes := #[] }, { accessFlags := 26, nameIndex := 1121, descriptorIndex := 1122, attributes := #[] }, { accessFlags := 25, nameIndex := 599, descriptorIndex := 600, attributes := #[] }, { accessFlags := 24, nameIndex := 1125, descriptorIndex := 18, attributes := #[] }, { accessFlags := 24, nameIndex := 1127, descriptorIndex := 18, attributes := #[] }])
  fields := #[{ name := "value", type := (.array .byte), accessFlags := 18, slot := 0, constantValue := 0 }, { name := "coder", type := .byte, accessFlags := 18, slot := 1, constantValue := 0 }, { name := "hash", type := .int, accessFlags := 2, slot := 2, constantValue := 0 }, { name := "hashIsZero", type := .boolean, accessFlags := 2, slot := 3, constantValue := 0 }, { name := "serialVersionUID", type := .long, accessFlags := 26, slot := 0, constantValue := 0 }, { name := "COMPACT_STRINGS", type := .boolean, accessFlags := 24, slot := 1, constantValue := 0 }, { name := "serialPersistentFields", type := (.array (.object "java/io/ObjectStreamField")), accessFlags := 26, slot := 2, constantValue := 0 }, { name := "REPL", type := .char, accessFlags := 26, slot := 3, constantValue := 0 }, { name := "CASE_INSENSITIVE_ORDER", type := (.object "java/util/Comparator"), accessFlags := 25, slot := 4, constantValue := 0 }, { name := "LATIN1", type := .byte, accessFlags := 24, slot := 5, constantValue := 0 }, { name := "UTF16", type := .byte, accessFlags := 24, slot := 6, constantValue := 0 }]
  methods := #[k7m0, k7m1, k7m2, k7m3, k7m4, k7m5]
  instanceTypes := #[(.array .byte), .byte, .int, .boolean]
  staticTypes := #[.long, .boolean, (.array (.object "java/io/ObjectStreamField")), .char, (.object "java/util/Comparator"), .byte, .byte]
  resolved := Array.replicate 1451 none
  statics := some 0 }

def pool8 : Array CpInfo := pool [(6, .class_ 8), (1, u "java/lang/Object"), (0, u "<init>"), (0, u "()V"), (1, .class_ 14), (1, u "java/lang/StringUTF16"), (31, u "$assertionsDisabled"), (0, u "Z"), (13, u "HI_BYTE_SHIFT"), (0, u "I"), (2, u "LO_BYTE_SHIFT"), (49, .methodref 12 116), (0, .nameAndType 117 118), (0, u "compress"), (0, u "([CI[BII)I"), (3, u "([CII)[B"), (138, u "coderFromArrayLen"), (0, u "([BI)B"), (106, .class_ 371), (1, u "java/lang/StringUTF16$LinesSpliterator"), (58, u "MAX_LENGTH"), (196, .class_ 628), (0, u "java/lang/StringUTF16$CodePointsSpliterator"), (0, .class_ 630), (0, u "java/lang/StringUTF16$CharsSpliterator")] 4

def k8m0 : Method := { name := "<init>", desc := "()V", sig := { parameters := [], returnType := none }, accessFlags := 0, code := none }
def k8c1 : Code := { maxStack := 2, maxLocals := 2, code := jdk_52_method_15_code, exceptionTable := #[], attributes := #[] }
def k8m1 : Method := { name := "coderFromArrayLen", desc := "([BI)B", sig := { parameters := [(.array .byte), .int], returnType := some .byte }, accessFlags := 8, code := some k8c1 }
def k8c2 : Code := { maxStack := 5, maxLocals := 6, code := jdk_52_method_16_code, exceptionTable := #[], attributes := #[] }
def k8m2 : Method := { name := "compress", desc := "([CII)[B", sig := { parameters := [(.array .char), .int, .int], returnType := some (.array .byte) }, accessFlags := 9, code := some k8c2 }
def k8c3 : Code := { maxStack := 3, maxLocals := 7, code := jdk_52_method_21_code, exceptionTable := #[], attributes := #[] }
def k8m3 : Method := { name := "compress", desc := "([CI[BII)I", sig := { parameters := [(.array .char), .int, (.array .byte), .int, .int], returnType := some .int }, accessFlags := 9, code := some k8c3 }
/-- java/lang/StringUTF16 -/
def k8 : Class := { plain "java/lang/StringUTF16" (some 0) with
  accessFlags := 48
  interfaces := #[]
  cf := some (fileOf pool8 12 #[.nestMembers #[627, 629, 369]] #[{ accessFlags := 0, nameIndex := 9, descriptorIndex := 10, attributes := #[] }, { accessFlags := 8, nameIndex := 261, descriptorIndex := 262, attributes := #[] }, { accessFlags := 9, nameIndex := 117, descriptorIndex := 122, attributes := #[] }, { accessFlags := 9, nameIndex := 117, descriptorIndex := 118, attributes := #[] }] 48 6 #[] #[{ accessFlags := 26, nameIndex := 61, descriptorIndex := 62, attributes := #[] }, { accessFlags := 26, nameIndex := 65, descriptorIndex := 62, attributes := #[] }, { accessFlags := 24, nameIndex := 430, descriptorIndex := 62, attributes := #[] }, { accessFlags := 4120, nameIndex := 46, descriptorIndex := 47, attributes := #[] }])
  fields := #[{ name := "HI_BYTE_SHIFT", type := .int, accessFlags := 26, slot := 0, constantValue := 0 }, { name := "LO_BYTE_SHIFT", type := .int, accessFlags := 26, slot := 1, constantValue := 0 }, { name := "MAX_LENGTH", type := .int, accessFlags := 24, slot := 2, constantValue := 0 }, { name := "$assertionsDisabled", type := .boolean, accessFlags := 4120, slot := 3, constantValue := 0 }]
  methods := #[k8m0, k8m1, k8m2, k8m3]
  instanceTypes := #[]
  staticTypes := #[.int, .int, .int, .boolean]
  resolved := Array.replicate 635 none
  statics := none }

def pool9 : Array CpInfo := pool [(4, .class_ 6), (1, u "java/lang/Object"), (0, u "<init>"), (0, u "()V"), (5, .class_ 16), (1, u "java/lang/StringLatin1"), (73, u "canEncode"), (14, u "(C)Z"), (15, u "$assertionsDisabled"), (0, u "Z"), (98, .class_ 223), (1, u "java/lang/StringLatin1$LinesSpliterator"), (57, u "equals"), (0, u "([B[B)Z"), (97, u "toBytes"), (1, u "(C)[B"), (7, .class_ 391), (0, u "java/lang/StringLatin1$CharsSpliterator")] 3

def k9m0 : Method := { name := "<init>", desc := "()V", sig := { parameters := [], returnType := none }, accessFlags := 0, code := none }
def k9c1 : Code := { maxStack := 2, maxLocals := 1, code := jdk_43_method_3_code, exceptionTable := #[], attributes := #[] }
def k9m1 : Method := { name := "canEncode", desc := "(C)Z", sig := { parameters := [.char], returnType := some .boolean }, accessFlags := 9, code := some k9c1 }
def k9c2 : Code := { maxStack := 3, maxLocals := 3, code := jdk_43_method_13_code, exceptionTable := #[], attributes := #[] }
def k9m2 : Method := { name := "equals", desc := "([B[B)Z", sig := { parameters := [(.array .byte), (.array .byte)], returnType := some .boolean }, accessFlags := 9, code := some k9c2 }
def k9c3 : Code := { maxStack := 4, maxLocals := 1, code := jdk_43_method_46_code, exceptionTable := #[], attributes := #[] }
def k9m3 : Method := { name := "toBytes", desc := "(C)[B", sig := { parameters := [.char], returnType := some (.array .byte) }, accessFlags := 9, code := some k9c3 }
/-- java/lang/StringLatin1 -/
def k9 : Class := { plain "java/lang/StringLatin1" (some 0) with
  accessFlags := 48
  interfaces := #[]
  cf := some (fileOf pool9 14 #[.nestMembers #[390, 221]] #[{ accessFlags := 0, nameIndex := 7, descriptorIndex := 8, attributes := #[] }, { accessFlags := 9, nameIndex := 90, descriptorIndex := 105, attributes := #[] }, { accessFlags := 9, nameIndex := 281, descriptorIndex := 282, attributes := #[] }, { accessFlags := 9, nameIndex := 380, descriptorIndex := 382, attributes := #[] }] 48 4 #[] #[{ accessFlags := 4120, nameIndex := 121, descriptorIndex := 122, attributes := #[] }])
  fields := #[{ name := "$assertionsDisabled", type := .boolean, accessFlags := 4120, slot := 0, constantValue := 0 }]
  methods := #[k9m0, k9m1, k9m2, k9m3]
  instanceTypes := #[]
  staticTypes := #[.boolean]
  resolved := Array.replicate 395 none
  statics := none }

def pool10 : Array CpInfo := pool [(1, .methodref 2 3), (0, .class_ 4), (0, .nameAndType 5 6), (0, u "java/lang/Object"), (0, u "<init>"), (0, u "()V"), (0, .methodref 8 9), (0, .class_ 10), (0, .nameAndType 11 12), (0, u "java/util/Objects"), (0, u "requireNonNull"), (0, u "(Ljava/lang/Object;)Ljava/lang/Object;"), (0, .class_ 14), (0, u "java/lang/String"), (0, .fieldref 16 17), (0, .class_ 18), (0, .nameAndType 19 20), (0, u "com/example/chitragupta/chitragupta/model/HelpdeskSite"), (0, u "kind"), (0, u "Ljava/lang/String;"), (0, .fieldref 16 22), (0, .nameAndType 23 20), (0, u "url"), (0, .methodref 13 25), (0, .nameAndType 26 27), (0, u "equals"), (0, u "(Ljava/lang/Object;)Z"), (4, u "(Ljava/lang/String;Ljava/lang/String;)V")] 10

def k10c0 : Code := { maxStack := 2, maxLocals := 3, code := prog_26_method_1_code, exceptionTable := #[], attributes := #[] }
def k10m0 : Method := { name := "<init>", desc := "(Ljava/lang/String;Ljava/lang/String;)V", sig := { parameters := [(.object "java/lang/String"), (.object "java/lang/String")], returnType := none }, accessFlags := 1, code := some k10c0 }
def k10c1 : Code := { maxStack := 2, maxLocals := 3, code := prog_26_method_4_code, exceptionTable := #[], attributes := #[] }
def k10m1 : Method := { name := "equals", desc := "(Ljava/lang/Object;)Z", sig := { parameters := [(.object "java/lang/Object")], returnType := some .boolean }, accessFlags := 1, code := some k10c1 }
/-- com/example/chitragupta/chitragupta/model/HelpdeskSite -/
def k10 : Class := { plain "com/example/chitragupta/chitragupta/model/HelpdeskSite" (some 0) with
  accessFlags := 33
  interfaces := #[]
  cf := some (fileOf pool10 16 #[] #[{ accessFlags := 1, nameIndex := 5, descriptorIndex := 32, attributes := #[] }, { accessFlags := 1, nameIndex := 26, descriptorIndex := 27, attributes := #[] }] 33 2 #[] #[{ accessFlags := 18, nameIndex := 19, descriptorIndex := 20, attributes := #[] }, { accessFlags := 18, nameIndex := 23, descriptorIndex := 20, attributes := #[] }])
  fields := #[{ name := "kind", type := (.object "java/lang/String"), accessFlags := 18, slot := 0, constantValue := 0 }, { name := "url", type := (.object "java/lang/String"), accessFlags := 18, slot := 1, constantValue := 0 }]
  methods := #[k10m0, k10m1]
  instanceTypes := #[(.object "java/lang/String"), (.object "java/lang/String")]
  staticTypes := #[]
  resolved := Array.replicate 43 none
  statics := none }

def pool11 : Array CpInfo := pool [(2, .class_ 4), (1, u "java/lang/Object"), (0, u "<init>"), (0, u "()V"), (35, .class_ 44), (1, u "java/util/Objects"), (0, u "requireNonNull"), (0, u "(Ljava/lang/Object;)Ljava/lang/Object;")] 137

def k11m0 : Method := { name := "<init>", desc := "()V", sig := { parameters := [], returnType := none }, accessFlags := 2, code := none }
def k11c1 : Code := { maxStack := 2, maxLocals := 1, code := jdk_31_method_10_code, exceptionTable := #[], attributes := #[] }
def k11m1 : Method := { name := "requireNonNull", desc := "(Ljava/lang/Object;)Ljava/lang/Object;", sig := { parameters := [(.object "java/lang/Object")], returnType := some (.object "java/lang/Object") }, accessFlags := 9, code := some k11c1 }
/-- java/util/Objects -/
def k11 : Class := { plain "java/util/Objects" (some 0) with
  accessFlags := 49
  interfaces := #[]
  cf := some (fileOf pool11 42 #[] #[{ accessFlags := 2, nameIndex := 5, descriptorIndex := 6, attributes := #[] }, { accessFlags := 9, nameIndex := 45, descriptorIndex := 46, attributes := #[] }] 49 2 #[] #[])
  fields := #[]
  methods := #[k11m0, k11m1]
  instanceTypes := #[]
  staticTypes := #[]
  resolved := Array.replicate 184 none
  statics := none }

def pool12 : Array CpInfo := pool [(2, .class_ 4), (1, u "java/lang/Object"), (0, u "<init>"), (0, u "()V"), (17, .class_ 26), (1, u "jdk/internal/util/Preconditions"), (28, .class_ 56), (0, u "jdk/internal/util/Preconditions$4"), (57, .class_ 115), (0, u "jdk/internal/util/Preconditions$1"), (7, u "SIOOBE_FORMATTER"), (0, u "Ljava/util/function/BiFunction;"), (0, .class_ 126), (0, u "jdk/internal/util/Preconditions$2"), (3, u "AIOOBE_FORMATTER"), (0, .class_ 132), (0, u "jdk/internal/util/Preconditions$3"), (3, u "IOOBE_FORMATTER")] 57

def k12m0 : Method := { name := "<init>", desc := "()V", sig := { parameters := [], returnType := none }, accessFlags := 1, code := none }
/-- jdk/internal/util/Preconditions -/
def k12 : Class := { plain "jdk/internal/util/Preconditions" (some 0) with
  accessFlags := 33
  interfaces := #[]
  cf := some (fileOf pool12 24 #[.nestMembers #[55, 131, 125, 114]] #[{ accessFlags := 1, nameIndex := 5, descriptorIndex := 6, attributes := #[] }] 33 2 #[] #[{ accessFlags := 25, nameIndex := 123, descriptorIndex := 124, attributes := #[] }, { accessFlags := 25, nameIndex := 130, descriptorIndex := 124, attributes := #[] }, { accessFlags := 25, nameIndex := 136, descriptorIndex := 124, attributes := #[] }])
  fields := #[{ name := "SIOOBE_FORMATTER", type := (.object "java/util/function/BiFunction"), accessFlags := 25, slot := 0, constantValue := 0 }, { name := "AIOOBE_FORMATTER", type := (.object "java/util/function/BiFunction"), accessFlags := 25, slot := 1, constantValue := 0 }, { name := "IOOBE_FORMATTER", type := (.object "java/util/function/BiFunction"), accessFlags := 25, slot := 2, constantValue := 0 }]
  methods := #[k12m0]
  instanceTypes := #[]
  staticTypes := #[(.object "java/util/function/BiFunction"), (.object "java/util/function/BiFunction"), (.object "java/util/function/BiFunction")]
  resolved := Array.replicate 194 none
  statics := some 1 }

def pool13 : Array CpInfo := pool [(9, u "<init>"), (6, .class_ 18), (1, u "java/lang/Object"), (0, u "()V"), (1, .class_ 23), (1, u "jdk/internal/util/ArraysSupport"), (0, u "LOG2_ARRAY_LONG_INDEX_SCALE"), (0, u "I"), (2, u "U"), (0, u "Ljdk/internal/misc/Unsafe;"), (8, u "BIG_ENDIAN"), (0, u "Z"), (8, u "LOG2_BYTE_BIT_SIZE"), (4, u "LOG2_ARRAY_INT_INDEX_SCALE"), (54, u "JLA"), (0, u "Ljdk/internal/access/JavaLangAccess;"), (11, u "LOG2_ARRAY_BOOLEAN_INDEX_SCALE"), (9, u "LOG2_ARRAY_BYTE_INDEX_SCALE"), (5, u "LOG2_ARRAY_CHAR_INDEX_SCALE"), (5, u "LOG2_ARRAY_SHORT_INDEX_SCALE"), (18, u "LOG2_ARRAY_FLOAT_INDEX_SCALE"), (24, u "LOG2_ARRAY_DOUBLE_INDEX_SCALE"), (89, u "T_BOOLEAN"), (2, u "T_CHAR"), (1, u "T_FLOAT"), (1, u "T_DOUBLE"), (1, u "T_BYTE"), (1, u "T_SHORT"), (1, u "T_INT"), (1, u "T_LONG"), (1, u "SOFT_MAX_ARRAY_LENGTH")] 83

def k13m0 : Method := { name := "<init>", desc := "()V", sig := { parameters := [], returnType := none }, accessFlags := 2, code := none }
/-- jdk/internal/util/ArraysSupport -/
def k13 : Class := { plain "jdk/internal/util/ArraysSupport" (some 0) with
  accessFlags := 33
  interfaces := #[]
  cf := some (fileOf pool13 21 #[] #[{ accessFlags := 2, nameIndex := 9, descriptorIndex := 19, attributes := #[] }] 33 16 #[] #[{ accessFlags := 24, nameIndex := 28, descriptorIndex := 29, attributes := #[] }, { accessFlags := 26, nameIndex := 38, descriptorIndex := 39, attributes := #[] }, { accessFlags := 25, nameIndex := 121, descriptorIndex := 25, attributes := #[] }, { accessFlags := 25, nameIndex := 131, descriptorIndex := 25, attributes := #[] }, { accessFlags := 25, nameIndex := 137, descriptorIndex := 25, attributes := #[] }, { accessFlags := 25, nameIndex := 143, descriptorIndex := 25, attributes := #[] }, { accessFlags := 25, nameIndex := 53, descriptorIndex := 25, attributes := #[] }, { accessFlags := 25, nameIndex := 24, descriptorIndex := 25, attributes := #[] }, { accessFlags := 25, nameIndex := 162, descriptorIndex := 25, attributes := #[] }, { accessFlags := 25, nameIndex := 187, descriptorIndex := 25, attributes := #[] }, { accessFlags := 26, nameIndex := 48, descriptorIndex := 25, attributes := #[] }, { accessFlags := 25, nameIndex := 277, descriptorIndex := 25, attributes := #[] }, { accessFlags := 25, nameIndex := 280, descriptorIndex := 25, attributes := #[] }, { accessFlags := 25, nameIndex := 282, descriptorIndex := 25, attributes := #[] }, { accessFlags := 25, nameIndex := 284, descriptorIndex := 25, attributes := #[] }, { accessFlags := 25, nameIndex := 286, descriptorIndex := 25, attributes := #[] }, { accessFlags := 25, nameIndex := 288, descriptorIndex := 25, attributes := #[] }, { accessFlags := 25, nameIndex := 290, descriptorIndex := 25, attributes := #[] }, { accessFlags := 25, nameIndex := 292, descriptorIndex := 25, attributes := #[] }, { accessFlags := 26, nameIndex := 108, descriptorIndex := 109, attributes := #[] }, { accessFlags := 25, nameIndex := 294, descriptorIndex := 25, attributes := #[] }])
  fields := #[{ name := "U", type := (.object "jdk/internal/misc/Unsafe"), accessFlags := 24, slot := 0, constantValue := 0 }, { name := "BIG_ENDIAN", type := .boolean, accessFlags := 26, slot := 1, constantValue := 0 }, { name := "LOG2_ARRAY_BOOLEAN_INDEX_SCALE", type := .int, accessFlags := 25, slot := 2, constantValue := 0 }, { name := "LOG2_ARRAY_BYTE_INDEX_SCALE", type := .int, accessFlags := 25, slot := 3, constantValue := 0 }, { name := "LOG2_ARRAY_CHAR_INDEX_SCALE", type := .int, accessFlags := 25, slot := 4, constantValue := 0 }, { name := "LOG2_ARRAY_SHORT_INDEX_SCALE", type := .int, accessFlags := 25, slot := 5, constantValue := 0 }, { name := "LOG2_ARRAY_INT_INDEX_SCALE", type := .int, accessFlags := 25, slot := 6, constantValue := 0 }, { name := "LOG2_ARRAY_LONG_INDEX_SCALE", type := .int, accessFlags := 25, slot := 7, constantValue := 0 }, { name := "LOG2_ARRAY_FLOAT_INDEX_SCALE", type := .int, accessFlags := 25, slot := 8, constantValue := 0 }, { name := "LOG2_ARRAY_DOUBLE_INDEX_SCALE", type := .int, accessFlags := 25, slot := 9, constantValue := 0 }, { name := "LOG2_BYTE_BIT_SIZE", type := .int, accessFlags := 26, slot := 10, constantValue := 0 }, { name := "T_BOOLEAN", type := .int, accessFlags := 25, slot := 11, constantValue := 0 }, { name := "T_CHAR", type := .int, accessFlags := 25, slot := 12, constantValue := 0 }, { name := "T_FLOAT", type := .int, accessFlags := 25, slot := 13, constantValue := 0 }, { name := "T_DOUBLE", type := .int, accessFlags := 25, slot := 14, constantValue := 0 }, { name := "T_BYTE", type := .int, accessFlags := 25, slot := 15, constantValue := 0 }, { name := "T_SHORT", type := .int, accessFlags := 25, slot := 16, constantValue := 0 }, { name := "T_INT", type := .int, accessFlags := 25, slot := 17, constantValue := 0 }, { name := "T_LONG", type := .int, accessFlags := 25, slot := 18, constantValue := 0 }, { name := "JLA", type := (.object "jdk/internal/access/JavaLangAccess"), accessFlags := 26, slot := 19, constantValue := 0 }, { name := "SOFT_MAX_ARRAY_LENGTH", type := .int, accessFlags := 25, slot := 20, constantValue := 0 }]
  methods := #[k13m0]
  instanceTypes := #[]
  staticTypes := #[(.object "jdk/internal/misc/Unsafe"), .boolean, .int, .int, .int, .int, .int, .int, .int, .int, .int, .int, .int, .int, .int, .int, .int, .int, .int, (.object "jdk/internal/access/JavaLangAccess"), .int]
  resolved := Array.replicate 378 none
  statics := none }

def pool14 : Array CpInfo := pool [(1, u "java/lang/Cloneable"), (0, .class_ 1), (0, u "java/lang/Object"), (0, .class_ 3)] 3

/-- java/lang/Cloneable -/
def k14 : Class := { plain "java/lang/Cloneable" (some 0) with
  accessFlags := 1537
  interfaces := #[]
  cf := some (fileOf pool14 2 #[] #[] 1537 4 #[] #[])
  fields := #[]
  methods := #[]
  instanceTypes := #[]
  staticTypes := #[]
  resolved := Array.replicate 8 none
  statics := none }

/-- the primitive byte -/
def k15 : Class := { plain "byte" none with kind := .primitive 'B', accessFlags := 0x411 }
/-- [B -/
def k16 : Class := { plain "[B" (some 0) with kind := .array 15 .byte, interfaces := #[14, 2], accessFlags := 1041 }

/-- the primitive char -/
def k17 : Class := { plain "char" none with kind := .primitive 'C', accessFlags := 0x411 }
/-- [C -/
def k18 : Class := { plain "[C" (some 0) with kind := .array 17 .char, interfaces := #[14, 2], accessFlags := 1041 }

/-- the primitive int -/
def k19 : Class := { plain "int" none with kind := .primitive 'I', accessFlags := 0x411 }
/-- [I -/
def k20 : Class := { plain "[I" (some 0) with kind := .array 19 .int, interfaces := #[14, 2], accessFlags := 1041 }

def heap : Heap := #[{ cls := 7, slots := #[.long 0, .int 1, .null, .int 0, .null, .int 0, .int 0], vm := .statics 7 },
  { cls := 12, slots := #[.null, .null, .null], vm := .statics 12 }]
def classes : Array Class := #[k0, k1, k2, k3, k4, k5, k6, k7, k8, k9, k10, k11, k12, k13, k14, k15, k16, k17, k18, k19, k20]
def interned : List (Array UInt16 × Addr) := []
def slotsUsed : Nat := 10
def theMethod : MethodId := ⟨1, 3⟩
def args0 : Array Value := #[.int 5, .int 6, .int 7, .int 8, .int 0]
def aboutOver (below : List Frame) : State where
  vm := { classes := classes, interned := interned.toArray }
  heap := heap
  slotsUsed := slotsUsed
  threads := #[{ frames := .invoking theMethod args0 :: below }]
def below0 : List Frame := [.native { method := ⟨0, 0⟩, args := #[] }]
def about1 : State := aboutOver below0
def p0 : Program := .bare "" "" ""
def e0 : Env := launch0.env 0 0 0
theorem w_frames : about1.frames = Frame.invoking theMethod args0 :: below0 := rfl
set_option maxRecDepth 65536 in
theorem w_args : argsFit about1.vm theMethod args0 = true := by decide +kernel
set_option maxRecDepth 65536 in
theorem w_heap : heapFits about1 = true := by decide +kernel
set_option maxRecDepth 65536 in
theorem w_runnable : about1.curStatus? = some .runnable := by decide +kernel
set_option maxRecDepth 65536 in
theorem w_alone : about1.alone = true := by decide +kernel
set_option maxRecDepth 65536 in
theorem w_named : about1.methodNamed? x = some theMethod := by decide +kernel
set_option maxRecDepth 65536 in
theorem w_hears : about1.hears theMethod below0 = true := by decide +kernel
set_option maxRecDepth 65536 in
theorem w_ripe : about1.ripe theMethod args0 below0 = true := by decide +kernel
theorem w_running : about1.status = .running := rfl
set_option maxRecDepth 65536 in
theorem w_room : about1.hasRoom e0.platform room_1 = true :=
  launch0.hasRoom_least _ room_1 (by decide +kernel) (by decide +kernel) (by decide +kernel) (by decide +kernel) (by decide +kernel) (by decide +kernel)
theorem allAtoms_all (ts : List Jvm.Cond) (a : Array Jvm.Value) (st : Jvm.State) : (allAtoms ts).before a st = ts.all (fun c => c.before a st) := by
  induction ts with
  | nil => rfl
  | cons c t ih =>
    show (Jvm.Cond.and c (allAtoms t)).before a st = _
    rw [Jvm.Cond.before_and, ih, List.all_cons]
def words1 : List Jvm.Cond := Jvm.Cond.code x code maxLocals ret :: tables_1
/-- a 'code' word, met by the world's own term for the bytes: nothing is compared byte by byte -/
theorem code_word {y : MethodName} {bytes : ByteArray} {mx : Nat} {rt : Option FieldType} {a : Array Value} {s : State} {m : MethodId} {meth : Method} {c : Code} (h1 : s.methodNamed? y = some m) (h2 : s.vm.method? m = some meth) (h3 : meth.code = some c) (h4 : c.code = bytes)
    (h5 : (c.maxLocals == mx && c.exceptionTable.isEmpty && decide (c.maxStack ≤ mostOperands) && decide (meth.sig.returnType = rt) && !meth.locks && decide (parseMethodDescriptor y.desc = some meth.sig)) = true) : (Jvm.Cond.code y bytes mx rt).before a s = true := by
  simp only [Bool.and_eq_true, beq_iff_eq, Bool.not_eq_true', decide_eq_true_eq] at h5
  obtain ⟨⟨⟨⟨⟨g1, g2⟩, g3⟩, g4⟩, g5⟩, g6⟩ := h5
  simp [Cond.before, Cond.holds, Cond.value, h1, h2, h3, h4, g1, g2, g3, g4, g5, g6]
def isCode : Jvm.Cond → Bool
  | .code _ _ _ _ => true
  | _ => false
theorem all_split {L : List Jvm.Cond} {P : Jvm.Cond → Bool} (h1 : L.all (fun c => isCode c || P c) = true) (h2 : ∀ c ∈ L.filter isCode, P c = true) : L.all P = true := by
  refine List.all_eq_true.mpr fun c hc => ?_
  have h := List.all_eq_true.mp h1 c hc
  rcases Bool.eq_false_or_eq_true (isCode c) with hi | hi
  · exact h2 c (List.mem_filter.mpr ⟨hc, hi⟩)
  · simpa [hi] using h
set_option maxRecDepth 65536 in
theorem w_c0 : (Jvm.Cond.code x code maxLocals ret).before args0 about1 = true := code_word (m := ⟨1, 3⟩) (meth := k1m3) (c := k1c3) (by decide +kernel) rfl rfl rfl (by decide +kernel)
set_option maxRecDepth 65536 in
theorem w_c1 : (Jvm.Cond.code ({ cls := "com/example/chitragupta/chitragupta/model/HelpdeskSiteEqualsPinLaw", name := "str", desc := "(I)Ljava/lang/String;" } : Jvm.MethodName) method_2_code (5 : Nat) (Option.some (Jvm.ClassFile.FieldType.object "java/lang/String"))).before args0 about1 = true := code_word (m := ⟨1, 1⟩) (meth := k1m1) (c := k1c1) (by decide +kernel) rfl rfl rfl (by decide +kernel)
set_option maxRecDepth 65536 in
theorem w_c2 : (Jvm.Cond.code ({ cls := "java/lang/String", name := "<init>", desc := "([C)V" } : Jvm.MethodName) jdk_42_method_3_code (2 : Nat) (Option.none : Option Jvm.ClassFile.FieldType)).before args0 about1 = true := code_word (m := ⟨7, 1⟩) (meth := k7m1) (c := k7c1) (by decide +kernel) rfl rfl rfl (by decide +kernel)
set_option maxRecDepth 65536 in
theorem w_c3 : (Jvm.Cond.code ({ cls := "java/lang/String", name := "<init>", desc := "([CIILjava/lang/Void;)V" } : Jvm.MethodName) jdk_42_method_149_code (6 : Nat) (Option.none : Option Jvm.ClassFile.FieldType)).before args0 about1 = true := code_word (m := ⟨7, 4⟩) (meth := k7m4) (c := k7c4) (by decide +kernel) rfl rfl rfl (by decide +kernel)
set_option maxRecDepth 65536 in
theorem w_c4 : (Jvm.Cond.code ({ cls := "java/lang/Object", name := "<init>", desc := "()V" } : Jvm.MethodName) object_method_1_code (1 : Nat) (Option.none : Option Jvm.ClassFile.FieldType)).before args0 about1 = true := code_word (m := ⟨0, 0⟩) (meth := k0m0) (c := k0c0) (by decide +kernel) rfl rfl rfl (by decide +kernel)
set_option maxRecDepth 65536 in
theorem w_c5 : (Jvm.Cond.code ({ cls := "java/lang/StringUTF16", name := "compress", desc := "([CII)[B" } : Jvm.MethodName) jdk_52_method_16_code (6 : Nat) (Option.some (Jvm.ClassFile.FieldType.array Jvm.ClassFile.FieldType.byte))).before args0 about1 = true := code_word (m := ⟨8, 2⟩) (meth := k8m2) (c := k8c2) (by decide +kernel) rfl rfl rfl (by decide +kernel)
set_option maxRecDepth 65536 in
theorem w_c6 : (Jvm.Cond.code ({ cls := "java/lang/StringUTF16", name := "compress", desc := "([CI[BII)I" } : Jvm.MethodName) jdk_52_method_21_code (7 : Nat) (Option.some Jvm.ClassFile.FieldType.int)).before args0 about1 = true := code_word (m := ⟨8, 3⟩) (meth := k8m3) (c := k8c3) (by decide +kernel) rfl rfl rfl (by decide +kernel)
set_option maxRecDepth 65536 in
theorem w_c7 : (Jvm.Cond.code ({ cls := "java/lang/StringUTF16", name := "coderFromArrayLen", desc := "([BI)B" } : Jvm.MethodName) jdk_52_method_15_code (2 : Nat) (Option.some Jvm.ClassFile.FieldType.byte)).before args0 about1 = true := code_word (m := ⟨8, 1⟩) (meth := k8m1) (c := k8c1) (by decide +kernel) rfl rfl rfl (by decide +kernel)
set_option maxRecDepth 65536 in
theorem w_c8 : (Jvm.Cond.code ({ cls := "java/lang/String", name := "valueOf", desc := "(C)Ljava/lang/String;" } : Jvm.MethodName) jdk_42_method_139_code (1 : Nat) (Option.some (Jvm.ClassFile.FieldType.object "java/lang/String"))).before args0 about1 = true := code_word (m := ⟨7, 3⟩) (meth := k7m3) (c := k7c3) (by decide +kernel) rfl rfl rfl (by decide +kernel)
set_option maxRecDepth 65536 in
theorem w_c9 : (Jvm.Cond.code ({ cls := "java/lang/StringLatin1", name := "canEncode", desc := "(C)Z" } : Jvm.MethodName) jdk_43_method_3_code (1 : Nat) (Option.some Jvm.ClassFile.FieldType.boolean)).before args0 about1 = true := code_word (m := ⟨9, 1⟩) (meth := k9m1) (c := k9c1) (by decide +kernel) rfl rfl rfl (by decide +kernel)
set_option maxRecDepth 65536 in
theorem w_c10 : (Jvm.Cond.code ({ cls := "java/lang/StringLatin1", name := "toBytes", desc := "(C)[B" } : Jvm.MethodName) jdk_43_method_46_code (1 : Nat) (Option.some (Jvm.ClassFile.FieldType.array Jvm.ClassFile.FieldType.byte))).before args0 about1 = true := code_word (m := ⟨9, 3⟩) (meth := k9m3) (c := k9c3) (by decide +kernel) rfl rfl rfl (by decide +kernel)
set_option maxRecDepth 65536 in
theorem w_c11 : (Jvm.Cond.code ({ cls := "java/lang/String", name := "<init>", desc := "([BB)V" } : Jvm.MethodName) jdk_42_method_151_code (3 : Nat) (Option.none : Option Jvm.ClassFile.FieldType)).before args0 about1 = true := code_word (m := ⟨7, 5⟩) (meth := k7m5) (c := k7c5) (by decide +kernel) rfl rfl rfl (by decide +kernel)
set_option maxRecDepth 65536 in
theorem w_c12 : (Jvm.Cond.code ({ cls := "com/example/chitragupta/chitragupta/model/HelpdeskSiteEqualsPinLaw", name := "sameStr", desc := "(II)Z" } : Jvm.MethodName) method_3_code (5 : Nat) (Option.some Jvm.ClassFile.FieldType.boolean)).before args0 about1 = true := code_word (m := ⟨1, 2⟩) (meth := k1m2) (c := k1c2) (by decide +kernel) rfl rfl rfl (by decide +kernel)
set_option maxRecDepth 65536 in
theorem w_c13 : (Jvm.Cond.code ({ cls := "com/example/chitragupta/chitragupta/model/HelpdeskSite", name := "<init>", desc := "(Ljava/lang/String;Ljava/lang/String;)V" } : Jvm.MethodName) prog_26_method_1_code (3 : Nat) (Option.none : Option Jvm.ClassFile.FieldType)).before args0 about1 = true := code_word (m := ⟨10, 0⟩) (meth := k10m0) (c := k10c0) (by decide +kernel) rfl rfl rfl (by decide +kernel)
set_option maxRecDepth 65536 in
theorem w_c14 : (Jvm.Cond.code ({ cls := "java/util/Objects", name := "requireNonNull", desc := "(Ljava/lang/Object;)Ljava/lang/Object;" } : Jvm.MethodName) jdk_31_method_10_code (1 : Nat) (Option.some (Jvm.ClassFile.FieldType.object "java/lang/Object"))).before args0 about1 = true := code_word (m := ⟨11, 1⟩) (meth := k11m1) (c := k11c1) (by decide +kernel) rfl rfl rfl (by decide +kernel)
set_option maxRecDepth 65536 in
theorem w_c15 : (Jvm.Cond.code ({ cls := "com/example/chitragupta/chitragupta/model/HelpdeskSite", name := "equals", desc := "(Ljava/lang/Object;)Z" } : Jvm.MethodName) prog_26_method_4_code (3 : Nat) (Option.some Jvm.ClassFile.FieldType.boolean)).before args0 about1 = true := code_word (m := ⟨10, 1⟩) (meth := k10m1) (c := k10c1) (by decide +kernel) rfl rfl rfl (by decide +kernel)
set_option maxRecDepth 65536 in
theorem w_c16 : (Jvm.Cond.code ({ cls := "java/lang/String", name := "equals", desc := "(Ljava/lang/Object;)Z" } : Jvm.MethodName) jdk_42_method_66_code (3 : Nat) (Option.some Jvm.ClassFile.FieldType.boolean)).before args0 about1 = true := code_word (m := ⟨7, 2⟩) (meth := k7m2) (c := k7c2) (by decide +kernel) rfl rfl rfl (by decide +kernel)
set_option maxRecDepth 65536 in
theorem w_c17 : (Jvm.Cond.code ({ cls := "java/lang/StringLatin1", name := "equals", desc := "([B[B)Z" } : Jvm.MethodName) jdk_43_method_13_code (3 : Nat) (Option.some Jvm.ClassFile.FieldType.boolean)).before args0 about1 = true := code_word (m := ⟨9, 2⟩) (meth := k9m2) (c := k9c2) (by decide +kernel) rfl rfl rfl (by decide +kernel)
def codes1 : List Jvm.Cond := [Jvm.Cond.code x code maxLocals ret, Jvm.Cond.code ({ cls := "com/example/chitragupta/chitragupta/model/HelpdeskSiteEqualsPinLaw", name := "str", desc := "(I)Ljava/lang/String;" } : Jvm.MethodName) method_2_code (5 : Nat) (Option.some (Jvm.ClassFile.FieldType.object "java/lang/String")), Jvm.Cond.code ({ cls := "java/lang/String", name := "<init>", desc := "([C)V" } : Jvm.MethodName) jdk_42_method_3_code (2 : Nat) (Option.none : Option Jvm.ClassFile.FieldType), Jvm.Cond.code ({ cls := "java/lang/String", name := "<init>", desc := "([CIILjava/lang/Void;)V" } : Jvm.MethodName) jdk_42_method_149_code (6 : Nat) (Option.none : Option Jvm.ClassFile.FieldType), Jvm.Cond.code ({ cls := "java/lang/Object", name := "<init>", desc := "()V" } : Jvm.MethodName) object_method_1_code (1 : Nat) (Option.none : Option Jvm.ClassFile.FieldType), Jvm.Cond.code ({ cls := "java/lang/StringUTF16", name := "compress", desc := "([CII)[B" } : Jvm.MethodName) jdk_52_method_16_code (6 : Nat) (Option.some (Jvm.ClassFile.FieldType.array Jvm.ClassFile.FieldType.byte)), Jvm.Cond.code ({ cls := "java/lang/StringUTF16", name := "compress", desc := "([CI[BII)I" } : Jvm.MethodName) jdk_52_method_21_code (7 : Nat) (Option.some Jvm.ClassFile.FieldType.int), Jvm.Cond.code ({ cls := "java/lang/StringUTF16", name := "coderFromArrayLen", desc := "([BI)B" } : Jvm.MethodName) jdk_52_method_15_code (2 : Nat) (Option.some Jvm.ClassFile.FieldType.byte), Jvm.Cond.code ({ cls := "java/lang/String", name := "valueOf", desc := "(C)Ljava/lang/String;" } : Jvm.MethodName) jdk_42_method_139_code (1 : Nat) (Option.some (Jvm.ClassFile.FieldType.object "java/lang/String")), Jvm.Cond.code ({ cls := "java/lang/StringLatin1", name := "canEncode", desc := "(C)Z" } : Jvm.MethodName) jdk_43_method_3_code (1 : Nat) (Option.some Jvm.ClassFile.FieldType.boolean), Jvm.Cond.code ({ cls := "java/lang/StringLatin1", name := "toBytes", desc := "(C)[B" } : Jvm.MethodName) jdk_43_method_46_code (1 : Nat) (Option.some (Jvm.ClassFile.FieldType.array Jvm.ClassFile.FieldType.byte)), Jvm.Cond.code ({ cls := "java/lang/String", name := "<init>", desc := "([BB)V" } : Jvm.MethodName) jdk_42_method_151_code (3 : Nat) (Option.none : Option Jvm.ClassFile.FieldType), Jvm.Cond.code ({ cls := "com/example/chitragupta/chitragupta/model/HelpdeskSiteEqualsPinLaw", name := "sameStr", desc := "(II)Z" } : Jvm.MethodName) method_3_code (5 : Nat) (Option.some Jvm.ClassFile.FieldType.boolean), Jvm.Cond.code ({ cls := "com/example/chitragupta/chitragupta/model/HelpdeskSite", name := "<init>", desc := "(Ljava/lang/String;Ljava/lang/String;)V" } : Jvm.MethodName) prog_26_method_1_code (3 : Nat) (Option.none : Option Jvm.ClassFile.FieldType), Jvm.Cond.code ({ cls := "java/util/Objects", name := "requireNonNull", desc := "(Ljava/lang/Object;)Ljava/lang/Object;" } : Jvm.MethodName) jdk_31_method_10_code (1 : Nat) (Option.some (Jvm.ClassFile.FieldType.object "java/lang/Object")), Jvm.Cond.code ({ cls := "com/example/chitragupta/chitragupta/model/HelpdeskSite", name := "equals", desc := "(Ljava/lang/Object;)Z" } : Jvm.MethodName) prog_26_method_4_code (3 : Nat) (Option.some Jvm.ClassFile.FieldType.boolean), Jvm.Cond.code ({ cls := "java/lang/String", name := "equals", desc := "(Ljava/lang/Object;)Z" } : Jvm.MethodName) jdk_42_method_66_code (3 : Nat) (Option.some Jvm.ClassFile.FieldType.boolean), Jvm.Cond.code ({ cls := "java/lang/StringLatin1", name := "equals", desc := "([B[B)Z" } : Jvm.MethodName) jdk_43_method_13_code (3 : Nat) (Option.some Jvm.ClassFile.FieldType.boolean)]
set_option maxRecDepth 65536 in
theorem codes_eq : words1.filter isCode = codes1 := rfl
theorem w_codes : ∀ c ∈ words1.filter isCode, c.before args0 about1 = true := by
  rw [codes_eq]
  intro c hc
  simp only [codes1, List.mem_cons, List.not_mem_nil, or_false] at hc
  rcases hc with rfl | rfl | rfl | rfl | rfl | rfl | rfl | rfl | rfl | rfl | rfl | rfl | rfl | rfl | rfl | rfl | rfl | rfl
  · exact w_c0
  · exact w_c1
  · exact w_c2
  · exact w_c3
  · exact w_c4
  · exact w_c5
  · exact w_c6
  · exact w_c7
  · exact w_c8
  · exact w_c9
  · exact w_c10
  · exact w_c11
  · exact w_c12
  · exact w_c13
  · exact w_c14
  · exact w_c15
  · exact w_c16
  · exact w_c17
set_option maxRecDepth 65536 in
theorem w_t1 : (words1.take 24).all (fun c => isCode c || c.before args0 about1) = true := by decide +kernel
set_option maxRecDepth 65536 in
theorem w_t2 : ((words1.drop 24).take 24).all (fun c => isCode c || c.before args0 about1) = true := by decide +kernel
set_option maxRecDepth 65536 in
theorem w_t3 : (((words1.drop 24).drop 24).take 24).all (fun c => isCode c || c.before args0 about1) = true := by decide +kernel
set_option maxRecDepth 65536 in
theorem w_t4 : (((words1.drop 24).drop 24).drop 24).all (fun c => isCode c || c.before args0 about1) = true := by decide +kernel
theorem w_tables : (allAtoms (Jvm.Cond.code x code maxLocals ret :: tables_1)).before args0 about1 = true := by
  rw [allAtoms_all]
  show words1.all (fun c => c.before args0 about1) = true
  refine all_split ?_ w_codes
  rw [← List.take_append_drop 24 words1, List.all_append, w_t1, ← List.take_append_drop 24 (words1.drop 24), List.all_append, w_t2, ← List.take_append_drop 24 ((words1.drop 24).drop 24), List.all_append, w_t3, w_t4]
  rfl
set_option maxRecDepth 65536 in
theorem w_rest : rest_1_c.before args0 about1 = true := by decide +kernel
set_option maxRecDepth 65536 in
theorem w_case : (Jvm.Cond.and given_1 narrow_1).before args0 about1 = true := by decide +kernel
set_option maxRecDepth 65536 in
theorem w_consts : constsHeld consts_1 about1 := Jvm.Lit.constsHeldB_iff.mp (by decide +kernel)
theorem w_applies : (headSpec (Jvm.Cond.code x code maxLocals ret :: tables_1) room_1).applies x e0.platform about1 = true :=
  (Spec.applies_iff w_frames).mpr ⟨w_running, w_runnable, w_alone, w_named, w_hears, w_ripe, w_room, w_tables⟩
theorem atStart : AtStart classFile x code maxLocals ret World_1 tables_1 room_1 Calls_1 rest_1 Pre_1 launch0 p0 e0 about1 theMethod args0 below0 :=
  ⟨lists_1, trivial, launch0.admits_env _ _ _, launch0.least_env, fairChoices_fair.cas, fairChoices_fair.clock, w_frames, w_args, w_heap, w_applies, ⟨w_consts, trivial⟩, w_rest, w_case⟩
end start1
theorem witness_1 : WitnessClaimed_1 := ⟨start1.p0, start1.e0, start1.about1, start1.theMethod, start1.args0, start1.below0, start1.atStart⟩
end Jvm.Pilot.@@N@@
