import JvmDerived
import JvmDerived.Pilot.@@N@@Statement
import JvmDerived.Pilot.@@N@@Code
set_option linter.unusedVariables false
set_option linter.unusedSimpArgs false
/- laws to paste: Road.backV, Road.lenW, Road.eqW, Road.codOf (cut by pick.py; bodies as the Statement names them) -/
namespace Jvm.Pilot.@@N@@
namespace StrChars
open Jvm Sem ClassFile Op Lib Jvm.Stand Jvm.Free.XT Jvm.Free.ALB Jvm.Free.JM Jvm.Free
open Jvm.Lib.Cold (StaticIs)
/-- a char array whose places are chars -/
def Ch (a : Addr) (A : Cell) (U : State) : Prop := Arr .char a A U ∧ Typed .char A
theorem Ch.mv {a : Addr} {A : Cell} {U U' : State} (h : Ch a A U) (hal : U.vm.Alike U'.vm) (hh : U'.heap = U.heap) : Ch a A U' := ⟨h.1.mv hal hh, h.2⟩
theorem Ch.keep {a : Addr} {A : Cell} {U U' : State} (h : Ch a A U) (hal : U.vm.Alike U'.vm) (hk : U'.heap[a]? = some A) : Ch a A U' := ⟨h.1.keep hal hk, h.2⟩
/-- what place i of a char[]'s cell holds -/
def cv (A : Cell) (i : Nat) : Int32 := match A.slots[i]? with | some (.int x) => x | _ => 0
theorem Ch.get {a : Addr} {A : Cell} {U : State} (h : Ch a A U) {i : Nat} (hi : i < A.slots.size) : A.slots[i]? = some (.int (cv A i)) := by
  have e := Array.getElem?_eq_getElem hi
  have f := h.2 i _ e
  unfold cv; rw [e]
  generalize A.slots[i] = v at f
  cases v <;> simp [fits] at f ⊢
/-- the byte that i2b leaves of a char -/
def lo8 (x : Int32) : Int32 := x.toInt8.toInt32
theorem fits_lo8 (y : Int32) : fits .byte (.int (lo8 y)) = true := by
  have h1 := y.toInt8.le_toInt
  have h2 := y.toInt8.toInt_lt
  simp only [lo8, fits, Bool.and_eq_true, decide_eq_true_eq, Int32.le_iff_toInt_le, Int8.toInt_toInt32, show (-128 : Int32).toInt = -128 from by decide, show (127 : Int32).toInt = 127 from by decide]
  omega
/-- A' is A but that each place j of lo .. hi - 1 holds f j -/
def Laid (A A' : Cell) (lo hi : Nat) (f : Nat → Value) : Prop := A'.cls = A.cls ∧ A'.vm = A.vm ∧ A'.slots.size = A.slots.size ∧ ∀ i, A'.slots[i]? = if lo ≤ i ∧ i < hi then some (f i) else A.slots[i]?
theorem Laid.zero (A : Cell) (lo : Nat) (f : Nat → Value) : Laid A A lo (lo + 0) f := ⟨rfl, rfl, rfl, fun i => by rw [if_neg (by omega)]⟩
theorem Laid.step {A Ak : Cell} {lo k : Nat} {f : Nat → Value} {v : Value} (h : Laid A Ak lo k f) (hlo : lo ≤ k) (hk : k < Ak.slots.size) (hv : v = f k) : Laid A (Ak.setSlot k v) lo (k + 1) f := by
  refine ⟨h.1, h.2.1, by simpa [Cell.setSlot] using h.2.2.1, fun i => ?_⟩
  by_cases e : k = i
  · subst e; rw [Cell.slots_setSlot_self v hk, if_pos (by omega), hv]
  · rw [Cell.slots_setSlot_ne v e, h.2.2.2 i]
    by_cases q : lo ≤ i ∧ i < k
    · rw [if_pos q, if_pos (by omega)]
    · rw [if_neg q, if_neg (by omega)]
def U16 : String := "java/lang/StringUTF16"
namespace Cmp5
def yN : MethodName := ⟨"java/lang/StringUTF16", "compress", "([CI[BII)I"⟩
abbrev yB : ByteArray := jdk_52_method_21_code
theorem d0 : decode yB 0 = .ok (.iconst 0, 1) := by decide +kernel
theorem d1 : decode yB 1 = .ok (.istore 5, 2) := by decide +kernel
theorem d3 : decode yB 3 = .ok (.iload 5, 2) := by decide +kernel
theorem d5 : decode yB 5 = .ok (.iload 4, 2) := by decide +kernel
theorem d7 : decode yB 7 = .ok (.if_icmp (.ge) 37, 3) := by decide +kernel
theorem d10 : decode yB 10 = .ok (.aload_n 0, 1) := by decide +kernel
theorem d11 : decode yB 11 = .ok (.iload_n 1, 1) := by decide +kernel
theorem d12 : decode yB 12 = .ok (.caload, 1) := by decide +kernel
theorem d13 : decode yB 13 = .ok (.istore 6, 2) := by decide +kernel
theorem d15 : decode yB 15 = .ok (.iload 6, 2) := by decide +kernel
theorem d17 : decode yB 17 = .ok (.sipush 255, 3) := by decide +kernel
theorem d20 : decode yB 20 = .ok (.if_icmp (.le) 6, 3) := by decide +kernel
theorem d26 : decode yB 26 = .ok (.aload_n 2, 1) := by decide +kernel
theorem d27 : decode yB 27 = .ok (.iload_n 3, 1) := by decide +kernel
theorem d28 : decode yB 28 = .ok (.iload 6, 2) := by decide +kernel
theorem d30 : decode yB 30 = .ok (.i2b, 1) := by decide +kernel
theorem d31 : decode yB 31 = .ok (.bastore, 1) := by decide +kernel
theorem d32 : decode yB 32 = .ok (.iinc 1 1, 3) := by decide +kernel
theorem d35 : decode yB 35 = .ok (.iinc 3 1, 3) := by decide +kernel
theorem d38 : decode yB 38 = .ok (.iinc 5 1, 3) := by decide +kernel
theorem d41 : decode yB 41 = .ok (.goto (-38), 3) := by decide +kernel
theorem d44 : decode yB 44 = .ok (.iload 4, 2) := by decide +kernel
theorem d46 : decode yB 46 = .ok (.ireturn, 1) := by decide +kernel
def site : List Cond := []
def tab : Cond := tabOf yN yB 7 (some .int) site
def P (b : Addr) (A : Cell) (d : Addr) (B : Cell) (o q len : Nat) (args : Array Value) (s : State) : Prop := args = #[.ref b, .int (Int32.ofNat o), .ref d, .int (Int32.ofNat q), .int (Int32.ofNat len)] ∧ Ch b A s ∧ Arr .byte d B s ∧ b ≠ d ∧ o + len ≤ A.slots.size ∧ q + len ≤ B.slots.size ∧ ∀ i, i < len → ¬ 255 < cv A (o + i)
def E (b : Addr) (A : Cell) (d : Addr) (B : Cell) (o q len : Nat) (r : Option Value) (s u : State) : Prop := r = some (.int (Int32.ofNat len)) ∧ ∃ B', Put d B' s u ∧ Laid B B' q (q + len) (fun j => Value.int (lo8 (cv A (o + (j - q)))))
/-- no char of the range above 255: len; the places written hold each char's low byte -/
theorem law (l : Launch) (b : Addr) (A : Cell) (d : Addr) (B : Cell) (o q len : Nat) : Law l yN 5 5 0 0 yB 7 (some .int) site (P b A d B o q len) (E b A d B o q len) (copyLocs d q len) 0 0 := by
  refine Law.of_walk (plainFor_of_name (by decide +kernel)) (by decide +kernel) (by decide +kernel) (by decide) (fun _ _ h => by rw [h.1]; rfl) (fun _ U U' hal hh h => ⟨h.1, h.2.1.mv hal hh, h.2.2.1.mv hal hh, h.2.2.2⟩) (fun r U U' V V' h1 hal h2 h => ⟨h.1, h.2.elim fun B' q => ⟨B', q.1.mv h1 h2, q.2⟩⟩) ?_
  intro p e s m args below meth c s₁ X0 hexec hbytes hml hret hlk hnm hown hh0 W hP
  obtain ⟨rfl, hA, hB, hne, l1, l2, hp⟩ := hP
  have c1 : Steps p.tables e below (s₁.setTop (entryFrame m #[.ref b, .int (Int32.ofNat o), .ref d, .int (Int32.ofNat q), .int (Int32.ofNat len)] 7)) (s₁.setTop (mkF m 0 #[.val (.ref b), .val (.int (Int32.ofNat o)), .val (.ref d), .val (.int (Int32.ofNat q)), .val (.int (Int32.ofNat len)), .unset, .unset] [])) := entry rfl
  have hA0 := hA.1.mv X0.warmed.alike hh0
  have hB0 := hB.mv X0.warmed.alike hh0
  have a31 := hA.1.2.2.2
  have c2 : Steps p.tables e below (s₁.setTop (entryFrame m #[.ref b, .int (Int32.ofNat o), .ref d, .int (Int32.ofNat q), .int (Int32.ofNat len)] 7)) (s₁.setTop (mkF m 3 #[.val (.ref b), .val (.int (Int32.ofNat o)), .val (.ref d), .val (.int (Int32.ofNat q)), .val (.int (Int32.ofNat len)), .val (.int 0), .unset] [])) := c1.trans (by
    refine iconstV X0.here hexec rfl 0 (hb hbytes d0) (by decide) ?_
    refine XS.istore X0.here hexec rfl (hb hbytes d1) rfl rfl ?_
    exact Steps.refl _)
  have loop : ∀ (r i : Nat), i + r = len → ∀ (z : Slot), (z = .unset ∨ ∃ w, z = .val w ∧ w.category = 1) → ∀ (Tl : State) (Bk : Cell), Stand p l e { frames := 0, locals := 0, cells := 0, slots := 0 } s m #[.ref b, .int (Int32.ofNat o), .ref d, .int (Int32.ofNat q), .int (Int32.ofNat len)] below meth c Tl ([] ++ copyLocs d q i) 0 0 → Put d Bk s₁ Tl → Laid B Bk q (q + i) (fun j => Value.int (lo8 (cv A (o + (j - q))))) →
      Steps p.tables e below (s₁.setTop (entryFrame m #[.ref b, .int (Int32.ofNat o), .ref d, .int (Int32.ofNat q), .int (Int32.ofNat len)] 7)) (Tl.setTop (mkF m 3 #[.val (.ref b), .val (.int (Int32.ofNat (o + i))), .val (.ref d), .val (.int (Int32.ofNat (q + i))), .val (.int (Int32.ofNat len)), .val (.int (Int32.ofNat i)), z] [])) → ∃ (T' : State) (B' : Cell) (z' : Slot), Stand p l e { frames := 0, locals := 0, cells := 0, slots := 0 } s m #[.ref b, .int (Int32.ofNat o), .ref d, .int (Int32.ofNat q), .int (Int32.ofNat len)] below meth c T' ([] ++ copyLocs d q len) 0 0 ∧ Put d B' s₁ T' ∧ Laid B B' q (q + len) (fun j => Value.int (lo8 (cv A (o + (j - q))))) ∧
      Steps p.tables e below (s₁.setTop (entryFrame m #[.ref b, .int (Int32.ofNat o), .ref d, .int (Int32.ofNat q), .int (Int32.ofNat len)] 7)) (T'.setTop (mkF m 3 #[.val (.ref b), .val (.int (Int32.ofNat (o + len))), .val (.ref d), .val (.int (Int32.ofNat (q + len))), .val (.int (Int32.ofNat len)), .val (.int (Int32.ofNat len)), z'] [])) := by
    intro r
    induction r with
    | zero =>
      intro i hi z hz Tl Bk Xl pl fl cl
      have hil : i = len := by omega
      rw [hil] at Xl fl cl
      exact ⟨Tl, Bk, z, Xl, pl, fl, cl⟩
    | succ r ih =>
      intro i hi z hz Tl Bk Xl pl fl cl
      have all := X0.warmed.alike.symm.trans Xl.warmed.alike
      have hAl := hA0.keep all (pl.other hne hA0.1)
      have hBk := hB0.like all pl.1 fl.1 fl.2.1 fl.2.2.1
      have hlt : q + i < Bk.slots.size := by rw [fl.2.2.1]; omega
      have c3 : Steps p.tables e below (s₁.setTop (entryFrame m #[.ref b, .int (Int32.ofNat o), .ref d, .int (Int32.ofNat q), .int (Int32.ofNat len)] 7)) (Tl.setTop (mkF m 12 #[.val (.ref b), .val (.int (Int32.ofNat (o + i))), .val (.ref d), .val (.int (Int32.ofNat (q + i))), .val (.int (Int32.ofNat len)), .val (.int (Int32.ofNat i)), z] [.int (Int32.ofNat (o + i)), .ref b])) := cl.trans (by
        refine XS.iload Xl.here hexec rfl (hb hbytes d3) rfl ?_
        refine XS.iload Xl.here hexec rfl (hb hbytes d5) rfl ?_
        refine XS.icmpNo Xl.here hexec rfl (hb hbytes d7) rfl (ii_ge_f (lt32 (by omega) (by omega))) ?_
        refine XS.aloadN Xl.here hexec rfl (hb hbytes d10) rfl rfl ?_
        refine XS.iloadN Xl.here hexec rfl (hb hbytes d11) rfl ?_
        exact Steps.refl _)
      have c4 : Steps p.tables e below (s₁.setTop (entryFrame m #[.ref b, .int (Int32.ofNat o), .ref d, .int (Int32.ofNat q), .int (Int32.ofNat len)] 7)) (Tl.setTop (mkF m 13 #[.val (.ref b), .val (.int (Int32.ofNat (o + i))), .val (.ref d), .val (.int (Int32.ofNat (q + i))), .val (.int (Int32.ofNat len)), .val (.int (Int32.ofNat i)), z] [.int (cv A (o + i))])) := c3.trans (by
        refine Xl.aget hexec hAl rfl (hA.get (i := o + i) (by omega)) rfl rfl (hb hbytes d12) ?_
        exact Steps.refl _)
      have c5 : Steps p.tables e below (s₁.setTop (entryFrame m #[.ref b, .int (Int32.ofNat o), .ref d, .int (Int32.ofNat q), .int (Int32.ofNat len)] 7)) (Tl.setTop (mkF m 15 #[.val (.ref b), .val (.int (Int32.ofNat (o + i))), .val (.ref d), .val (.int (Int32.ofNat (q + i))), .val (.int (Int32.ofNat len)), .val (.int (Int32.ofNat i)), .val (.int (cv A (o + i)))] [])) := c4.trans (by
        refine XS.istoreS Xl.here hexec rfl (hb hbytes d13) rfl rfl hz ?_
        exact Steps.refl _)
      have c6 : Steps p.tables e below (s₁.setTop (entryFrame m #[.ref b, .int (Int32.ofNat o), .ref d, .int (Int32.ofNat q), .int (Int32.ofNat len)] 7)) (Tl.setTop (mkF m 31 #[.val (.ref b), .val (.int (Int32.ofNat (o + i))), .val (.ref d), .val (.int (Int32.ofNat (q + i))), .val (.int (Int32.ofNat len)), .val (.int (Int32.ofNat i)), .val (.int (cv A (o + i)))] [.int (lo8 (cv A (o + i))), .int (Int32.ofNat (q + i)), .ref d])) := c5.trans (by
        refine XS.iload Xl.here hexec rfl (hb hbytes d15) rfl ?_
        refine sipushV Xl.here hexec rfl 255 (hb hbytes d17) (by decide) ?_
        refine XS.icmpYes Xl.here hexec rfl (pc0 := 20) rfl (hb hbytes d20) rfl (ii_le_t (hp i (by omega))) (by decide) rfl ?_
        refine XS.aloadN Xl.here hexec rfl (hb hbytes d26) rfl rfl ?_
        refine XS.iloadN Xl.here hexec rfl (hb hbytes d27) rfl ?_
        refine XS.iload Xl.here hexec rfl (hb hbytes d28) rfl ?_
        refine i2b Xl.here hexec rfl (hb hbytes d30) rfl ?_
        exact Steps.refl _)
      obtain ⟨T7, X7, p7, st7⟩ := Xl.aput hexec hBk rfl hlt rfl (fits_lo8 (cv A (o + i))) (g := (mkF m 31 #[.val (.ref b), .val (.int (Int32.ofNat (o + i))), .val (.ref d), .val (.int (Int32.ofNat (q + i))), .val (.int (Int32.ofNat len)), .val (.int (Int32.ofNat i)), .val (.int (cv A (o + i)))] [.int (lo8 (cv A (o + i))), .int (Int32.ofNat (q + i)), .ref d])) rfl (rest := []) rfl (hb hbytes d31)
      have c8 : Steps p.tables e below (s₁.setTop (entryFrame m #[.ref b, .int (Int32.ofNat o), .ref d, .int (Int32.ofNat q), .int (Int32.ofNat len)] 7)) (T7.setTop (mkF m 32 #[.val (.ref b), .val (.int (Int32.ofNat (o + i))), .val (.ref d), .val (.int (Int32.ofNat (q + i))), .val (.int (Int32.ofNat len)), .val (.int (Int32.ofNat i)), .val (.int (cv A (o + i)))] [])) := c6.trans (st7 _ (Steps.refl _))
      have c9 : Steps p.tables e below (s₁.setTop (entryFrame m #[.ref b, .int (Int32.ofNat o), .ref d, .int (Int32.ofNat q), .int (Int32.ofNat len)] 7)) (T7.setTop (mkF m 3 #[.val (.ref b), .val (.int (Int32.ofNat (o + i) + 1)), .val (.ref d), .val (.int (Int32.ofNat (q + i) + 1)), .val (.int (Int32.ofNat len)), .val (.int (Int32.ofNat i + 1)), .val (.int (cv A (o + i)))] [])) := c8.trans (by
        refine iincV X7.here hexec rfl 1 (hb hbytes d32) (by decide) rfl rfl ?_
        refine iincV X7.here hexec rfl 1 (hb hbytes d35) (by decide) rfl rfl ?_
        refine iincV X7.here hexec rfl 1 (hb hbytes d38) (by decide) rfl rfl ?_
        refine XS.goto X7.here hexec rfl (pc0 := 41) rfl (hb hbytes d41) (by decide) rfl ?_
        exact Steps.refl _)
      have c10 : Steps p.tables e below (s₁.setTop (entryFrame m #[.ref b, .int (Int32.ofNat o), .ref d, .int (Int32.ofNat q), .int (Int32.ofNat len)] 7)) (T7.setTop (mkF m 3 #[.val (.ref b), .val (.int (Int32.ofNat (o + (i + 1)))), .val (.ref d), .val (.int (Int32.ofNat (q + (i + 1)))), .val (.int (Int32.ofNat len)), .val (.int (Int32.ofNat (i + 1))), .val (.int (cv A (o + i)))] [])) := by
        have := c9
        rw [succ32, succ32, succ32] at this
        exact this
      exact ih (i + 1) (by omega) _ (Or.inr ⟨_, rfl, rfl⟩) T7 _ (by rw [copyLocs_step, ← List.append_assoc]; exact X7) (pl.trans p7) (fl.step (by omega) hlt (by simp)) c10
  obtain ⟨T9, B9, z9, X9, p9, f9, g9⟩ := loop len 0 (by omega) .unset (Or.inl rfl) s₁ B (by simpa [copyLocs] using X0) ⟨hB0.1, fun _ _ => rfl, rfl⟩ (Laid.zero _ _ _) c2
  have c11 : Steps p.tables e below (s₁.setTop (entryFrame m #[.ref b, .int (Int32.ofNat o), .ref d, .int (Int32.ofNat q), .int (Int32.ofNat len)] 7)) (T9.setTop (mkF m 46 #[.val (.ref b), .val (.int (Int32.ofNat (o + len))), .val (.ref d), .val (.int (Int32.ofNat (q + len))), .val (.int (Int32.ofNat len)), .val (.int (Int32.ofNat len)), z9] [.int (Int32.ofNat len)])) := g9.trans (by
    refine XS.iload X9.here hexec rfl (hb hbytes d3) rfl ?_
    refine XS.iload X9.here hexec rfl (hb hbytes d5) rfl ?_
    refine XS.icmpYes X9.here hexec rfl (pc0 := 7) rfl (hb hbytes d7) rfl (ii_ge_t (nlt32 (by omega) (Nat.le_refl _))) (by decide) rfl ?_
    refine XS.iload X9.here hexec rfl (hb hbytes d44) rfl ?_
    exact Steps.refl _)
  exact ⟨T9, some (.int (Int32.ofNat len)), _, _, _, X9, by simp, rfl, rfl, (fun h => by cases h), ⟨rfl, B9, p9.from hh0, f9⟩, fun fs hl => c11.trans (X9.ireturnOut hexec hret rfl (Or.inl rfl) (hb hbytes d46) hl)⟩
end Cmp5
namespace Cmp3
def yN : MethodName := ⟨"java/lang/StringUTF16", "compress", "([CII)[B"⟩
abbrev yB : ByteArray := jdk_52_method_16_code
theorem d0 : decode yB 0 = .ok (.iload_n 2, 1) := by decide +kernel
theorem d1 : decode yB 1 = .ok (.newarray .byte, 2) := by decide +kernel
theorem d3 : decode yB 3 = .ok (.astore_n 3, 1) := by decide +kernel
theorem d4 : decode yB 4 = .ok (.aload_n 0, 1) := by decide +kernel
theorem d5 : decode yB 5 = .ok (.iload_n 1, 1) := by decide +kernel
theorem d6 : decode yB 6 = .ok (.aload_n 3, 1) := by decide +kernel
theorem d7 : decode yB 7 = .ok (.iconst 0, 1) := by decide +kernel
theorem d8 : decode yB 8 = .ok (.iload_n 2, 1) := by decide +kernel
theorem d9 : decode yB 9 = .ok (.invokestatic 115, 3) := by decide +kernel
theorem d12 : decode yB 12 = .ok (.istore 4, 2) := by decide +kernel
theorem d14 : decode yB 14 = .ok (.iload 4, 2) := by decide +kernel
theorem d16 : decode yB 16 = .ok (.iload_n 2, 1) := by decide +kernel
theorem d17 : decode yB 17 = .ok (.if_icmp (.eq) 40, 3) := by decide +kernel
theorem d57 : decode yB 57 = .ok (.aload_n 3, 1) := by decide +kernel
theorem d58 : decode yB 58 = .ok (.areturn, 1) := by decide +kernel
def site : List Cond := [.arrayClass .byte, Cmp5.tab] ++ staticW U16 115 Cmp5.yN
def tab : Cond := tabOf yN yB 6 (some (.array .byte)) site
def P (b : Addr) (A : Cell) (o len : Nat) (args : Array Value) (s : State) : Prop := args = #[.ref b, .int (Int32.ofNat o), .int (Int32.ofNat len)] ∧ Ch b A s ∧ o + len ≤ A.slots.size ∧ len ≤ 536870912 ∧ ∀ i, i < len → ¬ 255 < cv A (o + i)
def E (b : Addr) (A : Cell) (o len : Nat) (r : Option Value) (s u : State) : Prop := NewArr .byte "[B" len (fun j => .int (lo8 (cv A (o + j)))) r s u ∧ u.heap.size = s.heap.size + 1
/-- no char of the range above 255: a new byte[] of their low bytes -/
theorem law (l : Launch) (b : Addr) (A : Cell) (o len : Nat) : Law l yN 3 3 1 18 yB 6 (some (.array .byte)) site (P b A o len) (E b A o len) [] 1 len := by
  refine Law.of_walk (plainFor_of_name (by decide +kernel)) (by decide +kernel) (by decide +kernel) (by decide) (fun _ _ h => by rw [h.1]; rfl) (fun _ U U' hal hh h => ⟨h.1, h.2.1.mv hal hh, h.2.2⟩) (fun r U U' V V' h1 hal h2 h => ⟨NewArr.mv r U U' V V' h1 hal h2 h.1, by rw [h1, h2]; exact h.2⟩) ?_
  intro p e s m args below meth c s₁ X0 hexec hbytes hml hret hlk hnm hown hh0 W hP
  obtain ⟨rfl, hA, l1, l2, hp⟩ := hP
  have a31 := hA.1.2.2.2
  have c1 : Steps p.tables e below (s₁.setTop (entryFrame m #[.ref b, .int (Int32.ofNat o), .int (Int32.ofNat len)] 6)) (s₁.setTop (mkF m 0 #[.val (.ref b), .val (.int (Int32.ofNat o)), .val (.int (Int32.ofNat len)), .unset, .unset, .unset] [])) := entry rfl
  have c2 : Steps p.tables e below (s₁.setTop (entryFrame m #[.ref b, .int (Int32.ofNat o), .int (Int32.ofNat len)] 6)) (s₁.setTop (mkF m 1 #[.val (.ref b), .val (.int (Int32.ofNat o)), .val (.int (Int32.ofNat len)), .unset, .unset, .unset] [.int (Int32.ofNat len)])) := c1.trans (by
    refine XS.iloadN X0.here hexec rfl (hb hbytes d0) rfl ?_
    exact Steps.refl _)
  obtain ⟨T3, B3, X3, ba3, bs3, bv3, bh3, bf3, st3⟩ := X0.anew hexec (atype := .byte) (wk W (.arrayClass .byte)) rfl (by show len * 1 ≤ _; omega) (by omega) (g := (mkF m 1 #[.val (.ref b), .val (.int (Int32.ofNat o)), .val (.int (Int32.ofNat len)), .unset, .unset, .unset] [.int (Int32.ofNat len)])) rfl (hb hbytes d1) (rest := []) rfl (Nat.le_refl _) (by show 0 + len ≤ len; omega)
  rw [hh0] at ba3 st3
  have kp3 : XT.Kept s T3 := (XT.Kept.of_eq hh0).push bh3
  have hA3 := hA.keep X3.warmed.alike (kp3 _ _ hA.1.1)
  have hne : b ≠ s.heap.size := hA.1.ne
  have c4 : Steps p.tables e below (s₁.setTop (entryFrame m #[.ref b, .int (Int32.ofNat o), .int (Int32.ofNat len)] 6)) (T3.setTop (mkF m 3 #[.val (.ref b), .val (.int (Int32.ofNat o)), .val (.int (Int32.ofNat len)), .unset, .unset, .unset] [.ref s.heap.size])) := c2.trans (st3 _ (Steps.refl _))
  have c5 : Steps p.tables e below (s₁.setTop (entryFrame m #[.ref b, .int (Int32.ofNat o), .int (Int32.ofNat len)] 6)) (T3.setTop (mkF m 9 #[.val (.ref b), .val (.int (Int32.ofNat o)), .val (.int (Int32.ofNat len)), .val (.ref s.heap.size), .unset, .unset] [.int (Int32.ofNat len), .int 0, .ref s.heap.size, .int (Int32.ofNat o), .ref b])) := c4.trans (by
    refine XS.astoreN X3.here hexec rfl (hb hbytes d3) rfl rfl rfl ?_
    refine XS.aloadN X3.here hexec rfl (hb hbytes d4) rfl rfl ?_
    refine XS.iloadN X3.here hexec rfl (hb hbytes d5) rfl ?_
    refine XS.aloadN X3.here hexec rfl (hb hbytes d6) rfl rfl ?_
    refine iconstV X3.here hexec rfl 0 (hb hbytes d7) (by decide) ?_
    refine XS.iloadN X3.here hexec rfl (hb hbytes d8) rfl ?_
    exact Steps.refl _)
  obtain ⟨v6, T6, X6, E6, g6⟩ := X3.callS hexec (Cmp5.law l b A s.heap.size B3 o 0 len) hown (wks W (staticW U16 115 Cmp5.yN)) (wk W Cmp5.tab) (W := 0) (Nat.le_of_ble_eq_true rfl) (Nat.le_of_ble_eq_true rfl) (Nat.le_refl _) (by show 0 + len + 0 ≤ len; omega) (g := (mkF m 9 #[.val (.ref b), .val (.int (Int32.ofNat o)), .val (.int (Int32.ofNat len)), .val (.ref s.heap.size), .unset, .unset] [.int (Int32.ofNat len), .int (Int32.ofNat 0), .ref s.heap.size, .int (Int32.ofNat o), .ref b])) rfl (by rw [hml]; rfl) c5 (argsL := [.ref b, .int (Int32.ofNat o), .ref s.heap.size, .int (Int32.ofNat 0), .int (Int32.ofNat len)]) (rest := []) rfl rfl (by show 2 * 0 + 0 ≤ _; decide) (hb hbytes d9) (⟨rfl, hA3, ba3, hne, l1, by rw [bs3]; simp, hp⟩)
  obtain ⟨rfl, B6, p6, f6⟩ := E6
  have c7 : Steps p.tables e below (s₁.setTop (entryFrame m #[.ref b, .int (Int32.ofNat o), .int (Int32.ofNat len)] 6)) (T6.setTop (mkF m 12 #[.val (.ref b), .val (.int (Int32.ofNat o)), .val (.int (Int32.ofNat len)), .val (.ref s.heap.size), .unset, .unset] [.int (Int32.ofNat len)])) := g6
  have c8 : Steps p.tables e below (s₁.setTop (entryFrame m #[.ref b, .int (Int32.ofNat o), .int (Int32.ofNat len)] 6)) (T6.setTop (mkF m 58 #[.val (.ref b), .val (.int (Int32.ofNat o)), .val (.int (Int32.ofNat len)), .val (.ref s.heap.size), .val (.int (Int32.ofNat len)), .unset] [.ref s.heap.size])) := c7.trans (by
    refine XS.istore X6.here hexec rfl (hb hbytes d12) rfl rfl ?_
    refine XS.iload X6.here hexec rfl (hb hbytes d14) rfl ?_
    refine XS.iloadN X6.here hexec rfl (hb hbytes d16) rfl ?_
    refine XS.icmpYes X6.here hexec rfl (pc0 := 17) rfl (hb hbytes d17) rfl (ii_eq_t rfl) (by decide) rfl ?_
    refine XS.aloadN X6.here hexec rfl (hb hbytes d57) rfl rfl ?_
    exact Steps.refl _)
  have X8 := X6.wide (L' := []) (cells' := 1) (slots' := len) (fun x hx hlt => by
    simp only [List.nil_append, copyLocs, List.mem_map, List.mem_range] at hx
    obtain ⟨i, -, rfl⟩ := hx
    exact absurd hlt (Nat.lt_irrefl _)) (Nat.le_refl _) (by omega)
  exact ⟨T6, some (.ref s.heap.size), _, _, _, X8, rfl, rfl, rfl, (fun h => by cases h), ⟨⟨rfl, B6, ba3.like (X3.warmed.alike.symm.trans X6.warmed.alike) p6.1 f6.1 f6.2.1 f6.2.2.1, f6.2.1.trans bv3, by rw [X6.warmed.alike.findClass, f6.1]; exact bf3, by rw [f6.2.2.1, bs3]; simp, fun j hj => by rw [f6.2.2.2 j, if_pos (by omega)]; rfl, kp3.put p6 (Nat.le_refl _)⟩, by rw [p6.2.2, bh3, hh0]; simp⟩, fun fs hl => c8.trans (X8.areturnOut hexec rfl hret rfl (hb hbytes d58) hl)⟩
end Cmp3
namespace CodL
def yN : MethodName := ⟨"java/lang/StringUTF16", "coderFromArrayLen", "([BI)B"⟩
abbrev yB : ByteArray := jdk_52_method_15_code
theorem d0 : decode yB 0 = .ok (.iload_n 1, 1) := by decide +kernel
theorem d1 : decode yB 1 = .ok (.aload_n 0, 1) := by decide +kernel
theorem d2 : decode yB 2 = .ok (.arraylength, 1) := by decide +kernel
theorem d3 : decode yB 3 = .ok (.isub, 1) := by decide +kernel
theorem d4 : decode yB 4 = .ok (.bipush 31, 2) := by decide +kernel
theorem d6 : decode yB 6 = .ok (.iushr, 1) := by decide +kernel
theorem d7 : decode yB 7 = .ok (.i2b, 1) := by decide +kernel
theorem d8 : decode yB 8 = .ok (.ireturn, 1) := by decide +kernel
def site : List Cond := []
def tab : Cond := tabOf yN yB 2 (some .byte) site
def P (d : Addr) (B : Cell) (args : Array Value) (s : State) : Prop := args = #[.ref d, .int (Int32.ofNat B.slots.size)] ∧ Arr .byte d B s
def E (r : Option Value) (s u : State) : Prop := XT.PureE (some (.int 0)) r s u
/-- an array as long as the number of chars: LATIN1 -/
theorem law (l : Launch) (d : Addr) (B : Cell) : Law l yN 2 2 0 0 yB 2 (some .byte) site (P d B) E [] 0 0 := by
  refine Law.of_walk (plainFor_of_name (by decide +kernel)) (by decide +kernel) (by decide +kernel) (by decide) (fun _ _ h => by rw [h.1]; rfl) (fun _ U U' hal hh h => ⟨h.1, h.2.mv hal hh⟩) (fun r U U' V V' h1 hal h2 h => XT.PureE.mv r U U' V V' h1 hal h2 h) ?_
  intro p e s m args below meth c s₁ X0 hexec hbytes hml hret hlk hnm hown hh0 W hP
  obtain ⟨rfl, hB⟩ := hP
  have hB0 := hB.mv X0.warmed.alike hh0
  have c1 : Steps p.tables e below (s₁.setTop (entryFrame m #[.ref d, .int (Int32.ofNat B.slots.size)] 2)) (s₁.setTop (mkF m 0 #[.val (.ref d), .val (.int (Int32.ofNat B.slots.size))] [])) := entry rfl
  have c2 : Steps p.tables e below (s₁.setTop (entryFrame m #[.ref d, .int (Int32.ofNat B.slots.size)] 2)) (s₁.setTop (mkF m 2 #[.val (.ref d), .val (.int (Int32.ofNat B.slots.size))] [.ref d, .int (Int32.ofNat B.slots.size)])) := c1.trans (by
    refine XS.iloadN X0.here hexec rfl (hb hbytes d0) rfl ?_
    refine XS.aloadN X0.here hexec rfl (hb hbytes d1) rfl rfl ?_
    exact Steps.refl _)
  have c3 : Steps p.tables e below (s₁.setTop (entryFrame m #[.ref d, .int (Int32.ofNat B.slots.size)] 2)) (s₁.setTop (mkF m 8 #[.val (.ref d), .val (.int (Int32.ofNat B.slots.size))] [.int (lo8 (ushr (Int32.ofNat B.slots.size - Int32.ofNat B.slots.size) 31))])) := c2.trans (by
    refine X0.alen hexec hB0 rfl rfl (hb hbytes d2) ?_
    refine XS.isub X0.here hexec rfl (hb hbytes d3) rfl ?_
    refine bipushV X0.here hexec rfl 31 (hb hbytes d4) (by decide) ?_
    refine iushr X0.here hexec rfl (hb hbytes d6) rfl ?_
    refine i2b X0.here hexec rfl (hb hbytes d7) rfl ?_
    exact Steps.refl _)
  have e0 : lo8 (ushr (Int32.ofNat B.slots.size - Int32.ofNat B.slots.size) 31) = 0 := by rw [Int32.sub_self]; decide
  rw [e0] at c3
  exact ⟨s₁, some (.int 0), _, _, _, X0, rfl, rfl, rfl, (fun h => by cases h), ⟨rfl, hh0⟩, fun fs hl => c3.trans (X0.ireturnOut hexec hret rfl (Or.inr (Or.inr (Or.inl rfl))) (hb hbytes d8) hl)⟩
end CodL
/-- the String at a is Latin-1 over a new byte[] (the heap's one new cell): the low bytes of the len chars of A from o on; every cell but a is kept -/
def Got (a : Addr) (D : Cell) (fV fC : Field) (A : Cell) (o len : Nat) (r : Option Value) (s u : State) : Prop := r = none ∧ ∃ D' V : Cell, Blank "java/lang/String" a D' u ∧ Same D D' [fV.slot, fC.slot] ∧ D'.slots[fV.slot]? = some (.ref s.heap.size) ∧ D'.slots[fC.slot]? = some (.int 0) ∧ Arr .byte s.heap.size V u ∧ V.vm = .none ∧ u.vm.findClass "[B" = some V.cls ∧ V.slots.size = len ∧ (∀ j, j < len → V.slots[j]? = some (.int (lo8 (cv A (o + j))))) ∧ (∀ (y : Addr) (c : Cell), y ≠ a → s.heap[y]? = some c → u.heap[y]? = some c) ∧ u.heap.size = s.heap.size + 1
theorem Got.mv {a : Addr} {D A : Cell} {fV fC : Field} {o len : Nat} : ∀ r (U U' V V' : State), U'.heap = U.heap → V.vm.Alike V'.vm → V'.heap = V.heap → Got a D fV fC A o len r U V → Got a D fV fC A o len r U' V' :=
  fun r U U' V V' h1 hal h2 ⟨e0, D', X, a1, a2, a3, a4, a5, a6, a7, a8, a9, a10, a11⟩ => ⟨e0, D', X, a1.mv hal h2, a2, by rw [h1]; exact a3, a4, by rw [h1]; exact a5.mv hal h2, a6, by rw [hal.findClass]; exact a7, a8, a9, by rw [h1, h2]; exact a10, by rw [h1, h2]; exact a11⟩
namespace New4
def yN : MethodName := ⟨"java/lang/String", "<init>", "([CIILjava/lang/Void;)V"⟩
abbrev yB : ByteArray := jdk_42_method_149_code
theorem d0 : decode yB 0 = .ok (.aload_n 0, 1) := by decide +kernel
theorem d1 : decode yB 1 = .ok (.invokespecial 1, 3) := by decide +kernel
theorem d4 : decode yB 4 = .ok (.iload_n 3, 1) := by decide +kernel
theorem d5 : decode yB 5 = .ok (.ifCond (.ne) 22, 3) := by decide +kernel
theorem d27 : decode yB 27 = .ok (.getstatic 38, 3) := by decide +kernel
theorem d30 : decode yB 30 = .ok (.ifCond (.eq) 28, 3) := by decide +kernel
theorem d33 : decode yB 33 = .ok (.aload_n 1, 1) := by decide +kernel
theorem d34 : decode yB 34 = .ok (.iload_n 2, 1) := by decide +kernel
theorem d35 : decode yB 35 = .ok (.iload_n 3, 1) := by decide +kernel
theorem d36 : decode yB 36 = .ok (.invokestatic 177, 3) := by decide +kernel
theorem d39 : decode yB 39 = .ok (.astore 5, 2) := by decide +kernel
theorem d41 : decode yB 41 = .ok (.aload_n 0, 1) := by decide +kernel
theorem d42 : decode yB 42 = .ok (.aload 5, 2) := by decide +kernel
theorem d44 : decode yB 44 = .ok (.iload_n 3, 1) := by decide +kernel
theorem d45 : decode yB 45 = .ok (.invokestatic 47, 3) := by decide +kernel
theorem d48 : decode yB 48 = .ok (.putfield 15, 3) := by decide +kernel
theorem d51 : decode yB 51 = .ok (.aload_n 0, 1) := by decide +kernel
theorem d52 : decode yB 52 = .ok (.aload 5, 2) := by decide +kernel
theorem d54 : decode yB 54 = .ok (.putfield 9, 3) := by decide +kernel
theorem d57 : decode yB 57 = .ok (.return_, 1) := by decide +kernel
def site : List Cond := [.fieldLink "java/lang/String" 38 "java/lang/String" "COMPACT_STRINGS" "Z", Cmp3.tab, CodL.tab, .laysFinal "java/lang/String" "java/lang/String" "value" "[B", .fieldLink "java/lang/String" 9 "java/lang/String" "value" "[B", .laysFinal "java/lang/String" "java/lang/String" "coder" "B", .fieldLink "java/lang/String" 15 "java/lang/String" "coder" "B"] ++ objW "java/lang/String" 1 ++ staticW "java/lang/String" 177 Cmp3.yN ++ staticW "java/lang/String" 47 CodL.yN
def tab : Cond := tabOf yN yB 6 none site
def P (a : Addr) (D : Cell) (fV fC : Field) (b : Addr) (A : Cell) (z : Int32) (o len : Nat) (args : Array Value) (s : State) : Prop := args = #[.ref a, .ref b, .int (Int32.ofNat o), .int (Int32.ofNat len), .null] ∧ Blank "java/lang/String" a D s ∧ Found "java/lang/String" "value" "[B" fV s ∧ Found "java/lang/String" "coder" "B" fC s ∧ Ch b A s ∧ StaticIs s "java/lang/String" "COMPACT_STRINGS" "Z" (.int z) ∧ ¬ z = 0 ∧ 0 < len ∧ o + len ≤ A.slots.size ∧ len ≤ 536870912 ∧ ∀ i, i < len → ¬ 255 < cv A (o + i)
def E (a : Addr) (D : Cell) (fV fC : Field) (A : Cell) (o len : Nat) (r : Option Value) (s u : State) : Prop := Got a D fV fC A o len r s u
/-- len > 0, no char of the range above 255: a Latin-1 String of their low bytes -/
theorem law (l : Launch) (a : Addr) (D : Cell) (fV fC : Field) (b : Addr) (A : Cell) (z : Int32) (o len : Nat) : Law l yN 5 4 2 35 yB 6 none site (P a D fV fC b A z o len) (E a D fV fC A o len) [⟨a, fC.slot⟩, ⟨a, fV.slot⟩] 1 len := by
  refine Law.of_walk (plainFor_of_name (by decide +kernel)) (by decide +kernel) (by decide +kernel) (by decide) (fun _ _ h => by rw [h.1]; rfl) (fun _ U U' hal hh h => ⟨h.1, h.2.1.mv hal hh, h.2.2.1.al hal, h.2.2.2.1.al hal, h.2.2.2.2.1.mv hal hh, h.2.2.2.2.2.1.there hal hh, h.2.2.2.2.2.2⟩) (fun r U U' V V' h1 hal h2 h => Got.mv r U U' V V' h1 hal h2 h) ?_
  intro p e s m args below meth c s₁ X0 hexec hbytes hml hret hlk hnm hown hh0 W hP
  obtain ⟨rfl, hB, f1, f2, hA, s1, hz, l0, l1, l2, hp⟩ := hP
  have a31 := hA.1.2.2.2
  have c1 : Steps p.tables e below (s₁.setTop (entryFrame m #[.ref a, .ref b, .int (Int32.ofNat o), .int (Int32.ofNat len), .null] 6)) (s₁.setTop (mkF m 0 #[.val (.ref a), .val (.ref b), .val (.int (Int32.ofNat o)), .val (.int (Int32.ofNat len)), .val .null, .unset] [])) := entry rfl
  have c2 : Steps p.tables e below (s₁.setTop (entryFrame m #[.ref a, .ref b, .int (Int32.ofNat o), .int (Int32.ofNat len), .null] 6)) (s₁.setTop (mkF m 1 #[.val (.ref a), .val (.ref b), .val (.int (Int32.ofNat o)), .val (.int (Int32.ofNat len)), .val .null, .unset] [.ref a])) := c1.trans (by
    refine XS.aloadN X0.here hexec rfl (hb hbytes d0) rfl rfl ?_
    exact Steps.refl _)
  obtain ⟨T3, X3, q3, st3⟩ := X0.oinit hexec hown (wks W (objW "java/lang/String" 1)) (g := (mkF m 1 #[.val (.ref a), .val (.ref b), .val (.int (Int32.ofNat o)), .val (.int (Int32.ofNat len)), .val .null, .unset] [.ref a])) rfl (by rw [hml]; rfl) (rest := []) rfl (hb hbytes d1) (W := 0) (by show 2 * 0 + 0 ≤ _; decide) (Nat.le_of_ble_eq_true rfl) (Nat.le_of_ble_eq_true rfl)
  have hh3 := q3.trans hh0
  have c4 : Steps p.tables e below (s₁.setTop (entryFrame m #[.ref a, .ref b, .int (Int32.ofNat o), .int (Int32.ofNat len), .null] 6)) (T3.setTop (mkF m 27 #[.val (.ref a), .val (.ref b), .val (.int (Int32.ofNat o)), .val (.int (Int32.ofNat len)), .val .null, .unset] [])) := (c2.trans (st3 _ (Steps.refl _))).trans (by
    refine XS.iloadN X3.here hexec rfl (hb hbytes d4) rfl ?_
    refine XS.ifYes X3.here hexec rfl (pc0 := 5) rfl (hb hbytes d5) rfl (i0_ne_t (nz32 (by omega) l0)) (by decide) rfl ?_
    exact Steps.refl _)
  obtain ⟨T5, X5, q5, st5⟩ := X3.sget hexec hown (wk W (.fieldLink "java/lang/String" 38 "java/lang/String" "COMPACT_STRINGS" "Z")) s1 (fun _ _ h => by rw [hh3]; exact h) (g := (mkF m 27 #[.val (.ref a), .val (.ref b), .val (.int (Int32.ofNat o)), .val (.int (Int32.ofNat len)), .val .null, .unset] [])) rfl (hb hbytes d27)
  have hh5 := q5.trans hh3
  have c6 : Steps p.tables e below (s₁.setTop (entryFrame m #[.ref a, .ref b, .int (Int32.ofNat o), .int (Int32.ofNat len), .null] 6)) (T5.setTop (mkF m 30 #[.val (.ref a), .val (.ref b), .val (.int (Int32.ofNat o)), .val (.int (Int32.ofNat len)), .val .null, .unset] [.int z])) := c4.trans (st5 _ (Steps.refl _))
  have c7 : Steps p.tables e below (s₁.setTop (entryFrame m #[.ref a, .ref b, .int (Int32.ofNat o), .int (Int32.ofNat len), .null] 6)) (T5.setTop (mkF m 36 #[.val (.ref a), .val (.ref b), .val (.int (Int32.ofNat o)), .val (.int (Int32.ofNat len)), .val .null, .unset] [.int (Int32.ofNat len), .int (Int32.ofNat o), .ref b])) := c6.trans (by
    refine XS.ifNo X5.here hexec rfl (hb hbytes d30) rfl (i0_eq_f hz) ?_
    refine XS.aloadN X5.here hexec rfl (hb hbytes d33) rfl rfl ?_
    refine XS.iloadN X5.here hexec rfl (hb hbytes d34) rfl ?_
    refine XS.iloadN X5.here hexec rfl (hb hbytes d35) rfl ?_
    exact Steps.refl _)
  obtain ⟨v8, T8, X8, E8, g8⟩ := X5.callS hexec (Cmp3.law l b A o len) hown (wks W (staticW "java/lang/String" 177 Cmp3.yN)) (wk W Cmp3.tab) (W := 0) (Nat.le_of_ble_eq_true rfl) (Nat.le_of_ble_eq_true rfl) (Nat.le_refl _) (by show 0 + len ≤ len; omega) (g := (mkF m 36 #[.val (.ref a), .val (.ref b), .val (.int (Int32.ofNat o)), .val (.int (Int32.ofNat len)), .val .null, .unset] [.int (Int32.ofNat len), .int (Int32.ofNat o), .ref b])) rfl (by rw [hml]; rfl) c7 (argsL := [.ref b, .int (Int32.ofNat o), .int (Int32.ofNat len)]) (rest := []) rfl rfl (by show 2 * 0 + 0 ≤ _; decide) (hb hbytes d36) (⟨rfl, hA.mv X5.warmed.alike hh5, l1, l2, hp⟩)
  obtain ⟨e8, z8⟩ := E8
  obtain ⟨rfl, N, n1, n2, n3, n4, n5, n6⟩ := NewArr.mv _ T5 s _ _ hh5.symm (Vm.Alike.refl _) rfl e8
  rw [hh5] at z8
  have hB1 := hB.keep X8.warmed.alike (n6 _ _ hB.1)
  have hne : s.heap.size ≠ a := (Nat.ne_of_lt (Array.getElem?_eq_some_iff.mp hB.1).1).symm
  have c9 : Steps p.tables e below (s₁.setTop (entryFrame m #[.ref a, .ref b, .int (Int32.ofNat o), .int (Int32.ofNat len), .null] 6)) (T8.setTop (mkF m 39 #[.val (.ref a), .val (.ref b), .val (.int (Int32.ofNat o)), .val (.int (Int32.ofNat len)), .val .null, .unset] [.ref s.heap.size])) := g8
  have c10 : Steps p.tables e below (s₁.setTop (entryFrame m #[.ref a, .ref b, .int (Int32.ofNat o), .int (Int32.ofNat len), .null] 6)) (T8.setTop (mkF m 45 #[.val (.ref a), .val (.ref b), .val (.int (Int32.ofNat o)), .val (.int (Int32.ofNat len)), .val .null, .val (.ref s.heap.size)] [.int (Int32.ofNat N.slots.size), .ref s.heap.size, .ref a])) := by
    have hc : Steps p.tables e below (s₁.setTop (entryFrame m #[.ref a, .ref b, .int (Int32.ofNat o), .int (Int32.ofNat len), .null] 6)) (T8.setTop (mkF m 45 #[.val (.ref a), .val (.ref b), .val (.int (Int32.ofNat o)), .val (.int (Int32.ofNat len)), .val .null, .val (.ref s.heap.size)] [.int (Int32.ofNat len), .ref s.heap.size, .ref a])) := c9.trans (by
      refine XS.astore X8.here hexec rfl (hb hbytes d39) rfl rfl rfl ?_
      refine XS.aloadN X8.here hexec rfl (hb hbytes d41) rfl rfl ?_
      refine XS.aload X8.here hexec rfl (hb hbytes d42) rfl rfl ?_
      refine XS.iloadN X8.here hexec rfl (hb hbytes d44) rfl ?_
      exact Steps.refl _)
    rw [n4]; exact hc
  obtain ⟨v11, T11, X11, E11, g11⟩ := X8.callS hexec (CodL.law l s.heap.size N) hown (wks W (staticW "java/lang/String" 47 CodL.yN)) (wk W CodL.tab) (W := 1) (Nat.le_of_ble_eq_true rfl) (Nat.le_of_ble_eq_true rfl) (Nat.le_refl _) (by show 0 + len + 0 ≤ len; omega) (g := (mkF m 45 #[.val (.ref a), .val (.ref b), .val (.int (Int32.ofNat o)), .val (.int (Int32.ofNat len)), .val .null, .val (.ref s.heap.size)] [.int (Int32.ofNat N.slots.size), .ref s.heap.size, .ref a])) rfl (by rw [hml]; rfl) c10 (argsL := [.ref s.heap.size, .int (Int32.ofNat N.slots.size)]) (rest := [.ref a]) rfl rfl (by show 2 * 0 + (1 + 0) ≤ _; decide) (hb hbytes d45) (⟨rfl, n1⟩)
  obtain ⟨rfl, q11⟩ := E11
  have hB11 := hB1.mv (X8.warmed.alike.symm.trans X11.warmed.alike) q11
  have c12 : Steps p.tables e below (s₁.setTop (entryFrame m #[.ref a, .ref b, .int (Int32.ofNat o), .int (Int32.ofNat len), .null] 6)) (T11.setTop (mkF m 48 #[.val (.ref a), .val (.ref b), .val (.int (Int32.ofNat o)), .val (.int (Int32.ofNat len)), .val .null, .val (.ref s.heap.size)] [.int 0, .ref a])) := g11
  obtain ⟨T13, X13, p13, bl13, sl13, st13⟩ := X11.finit hexec hown (wk W (.fieldLink "java/lang/String" 15 "java/lang/String" "coder" "B")) (Or.inr ⟨_, (wk W (.laysFinal "java/lang/String" "java/lang/String" "coder" "B"))⟩) (Or.inl ⟨rfl, hnm⟩) f2 (Or.inl rfl) hB11 (t := .byte) (by decide +kernel) rfl (g := (mkF m 48 #[.val (.ref a), .val (.ref b), .val (.int (Int32.ofNat o)), .val (.int (Int32.ofNat len)), .val .null, .val (.ref s.heap.size)] [.int 0, .ref a])) rfl (rest := []) rfl (hb hbytes d48)
  have c14 : Steps p.tables e below (s₁.setTop (entryFrame m #[.ref a, .ref b, .int (Int32.ofNat o), .int (Int32.ofNat len), .null] 6)) (T13.setTop (mkF m 54 #[.val (.ref a), .val (.ref b), .val (.int (Int32.ofNat o)), .val (.int (Int32.ofNat len)), .val .null, .val (.ref s.heap.size)] [.ref s.heap.size, .ref a])) := (c12.trans (st13 _ (Steps.refl _))).trans (by
    refine XS.aloadN X13.here hexec rfl (hb hbytes d51) rfl rfl ?_
    refine XS.aload X13.here hexec rfl (hb hbytes d52) rfl rfl ?_
    exact Steps.refl _)
  obtain ⟨T15, X15, p15, bl15, sl15, st15⟩ := X13.finit hexec hown (wk W (.fieldLink "java/lang/String" 9 "java/lang/String" "value" "[B")) (Or.inr ⟨_, (wk W (.laysFinal "java/lang/String" "java/lang/String" "value" "[B"))⟩) (Or.inl ⟨rfl, hnm⟩) f1 (Or.inl rfl) bl13 (t := (.array .byte)) (by decide +kernel) rfl (g := (mkF m 54 #[.val (.ref a), .val (.ref b), .val (.int (Int32.ofNat o)), .val (.int (Int32.ofNat len)), .val .null, .val (.ref s.heap.size)] [.ref s.heap.size, .ref a])) rfl (rest := []) rfl (hb hbytes d54)
  have c16 : Steps p.tables e below (s₁.setTop (entryFrame m #[.ref a, .ref b, .int (Int32.ofNat o), .int (Int32.ofNat len), .null] 6)) (T15.setTop (mkF m 57 #[.val (.ref a), .val (.ref b), .val (.int (Int32.ofNat o)), .val (.int (Int32.ofNat len)), .val .null, .val (.ref s.heap.size)] [])) := c14.trans (st15 _ (Steps.refl _))
  have ap := apart (Or.inr ⟨_, (wk W (.laysFinal "java/lang/String" "java/lang/String" "value" "[B"))⟩) (Or.inr ⟨_, (wk W (.laysFinal "java/lang/String" "java/lang/String" "coder" "B"))⟩) f1 f2 (t₁ := .array .byte) (t₂ := .byte) (by decide +kernel) (by decide +kernel) (by decide)
  have al := X8.warmed.alike.symm.trans X15.warmed.alike
  have n7 : T11.heap[s.heap.size]? = some N := by rw [q11]; exact n1.1
  exact ⟨T15, none, _, _, _, X15, by simp, rfl, by omega, (fun _ => rfl), ⟨rfl, _, N, bl15, ((Same.refl D _).set _ (by simp)).set _ (by simp), sl15, (Cell.slots_setSlot_ne _ ap).trans sl13, n1.keep al (p15.other hne (p13.other hne n7)), n2, by rw [al.findClass]; exact n3, n4, n5, fun y c h1 h2 => p15.other h1 (p13.other h1 (by rw [q11]; exact n6 y c h2)), by rw [p15.2.2, p13.2.2, q11]; exact z8⟩, fun fs hl => c16.trans (X15.returnOut hexec hret (hb hbytes d57) hl)⟩
end New4
namespace New1
def yN : MethodName := ⟨"java/lang/String", "<init>", "([C)V"⟩
abbrev yB : ByteArray := jdk_42_method_3_code
theorem d0 : decode yB 0 = .ok (.aload_n 0, 1) := by decide +kernel
theorem d1 : decode yB 1 = .ok (.aload_n 1, 1) := by decide +kernel
theorem d2 : decode yB 2 = .ok (.iconst 0, 1) := by decide +kernel
theorem d3 : decode yB 3 = .ok (.aload_n 1, 1) := by decide +kernel
theorem d4 : decode yB 4 = .ok (.arraylength, 1) := by decide +kernel
theorem d5 : decode yB 5 = .ok (.aconst_null, 1) := by decide +kernel
theorem d6 : decode yB 6 = .ok (.invokespecial 27, 3) := by decide +kernel
theorem d9 : decode yB 9 = .ok (.return_, 1) := by decide +kernel
def site : List Cond := [New4.tab] ++ initW "java/lang/String" 27 New4.yN
def tab : Cond := tabOf yN yB 2 none site
def P (a : Addr) (D : Cell) (fV fC : Field) (b : Addr) (A : Cell) (z : Int32) (args : Array Value) (s : State) : Prop := args = #[.ref a, .ref b] ∧ Blank "java/lang/String" a D s ∧ Found "java/lang/String" "value" "[B" fV s ∧ Found "java/lang/String" "coder" "B" fC s ∧ Ch b A s ∧ StaticIs s "java/lang/String" "COMPACT_STRINGS" "Z" (.int z) ∧ ¬ z = 0 ∧ 0 < A.slots.size ∧ A.slots.size ≤ 536870912 ∧ ∀ i, i < A.slots.size → ¬ 255 < cv A i
def E (a : Addr) (D : Cell) (fV fC : Field) (A : Cell) (r : Option Value) (s u : State) : Prop := Got a D fV fC A 0 A.slots.size r s u
/-- new String(chars), not empty, no char above 255: a Latin-1 String of their low bytes -/
theorem law (l : Launch) (a : Addr) (D : Cell) (fV fC : Field) (b : Addr) (A : Cell) (z : Int32) : Law l yN 2 1 3 52 yB 2 none site (P a D fV fC b A z) (E a D fV fC A) [⟨a, fC.slot⟩, ⟨a, fV.slot⟩] 1 A.slots.size := by
  refine Law.of_walk (plainFor_of_name (by decide +kernel)) (by decide +kernel) (by decide +kernel) (by decide) (fun _ _ h => by rw [h.1]; rfl) (fun _ U U' hal hh h => ⟨h.1, h.2.1.mv hal hh, h.2.2.1.al hal, h.2.2.2.1.al hal, h.2.2.2.2.1.mv hal hh, h.2.2.2.2.2.1.there hal hh, h.2.2.2.2.2.2⟩) (fun r U U' V V' h1 hal h2 h => Got.mv r U U' V V' h1 hal h2 h) ?_
  intro p e s m args below meth c s₁ X0 hexec hbytes hml hret hlk hnm hown hh0 W hP
  obtain ⟨rfl, hB, f1, f2, hA, s1, hz, l0, l2, hp⟩ := hP
  have c1 : Steps p.tables e below (s₁.setTop (entryFrame m #[.ref a, .ref b] 2)) (s₁.setTop (mkF m 0 #[.val (.ref a), .val (.ref b)] [])) := entry rfl
  have c2 : Steps p.tables e below (s₁.setTop (entryFrame m #[.ref a, .ref b] 2)) (s₁.setTop (mkF m 6 #[.val (.ref a), .val (.ref b)] [.null, .int (Int32.ofNat A.slots.size), .int 0, .ref b, .ref a])) := c1.trans (by
    refine XS.aloadN X0.here hexec rfl (hb hbytes d0) rfl rfl ?_
    refine XS.aloadN X0.here hexec rfl (hb hbytes d1) rfl rfl ?_
    refine iconstV X0.here hexec rfl 0 (hb hbytes d2) (by decide) ?_
    refine XS.aloadN X0.here hexec rfl (hb hbytes d3) rfl rfl ?_
    refine X0.alen hexec (hA.1.mv X0.warmed.alike hh0) rfl rfl (hb hbytes d4) ?_
    refine XS.aconstNull X0.here hexec rfl (hb hbytes d5) ?_
    exact Steps.refl _)
  obtain ⟨v3, T3, X3, E3, g3⟩ := X0.callN hexec (New4.law l a D fV fC b A z 0 A.slots.size) rfl hown (wks W (initW "java/lang/String" 27 New4.yN)) (W New4.tab (by simp only [site, List.mem_cons, List.mem_append, true_or, or_true])) (W := 0) (Nat.le_of_ble_eq_true rfl) (Nat.le_of_ble_eq_true rfl) (Nat.le_refl _) (by show 0 + A.slots.size ≤ A.slots.size; omega) (g := (mkF m 6 #[.val (.ref a), .val (.ref b)] [.null, .int (Int32.ofNat A.slots.size), .int (Int32.ofNat 0), .ref b, .ref a])) rfl (by rw [hml]; rfl) c2 (argsL := [.ref b, .int (Int32.ofNat 0), .int (Int32.ofNat A.slots.size), .null]) (rest := []) rfl rfl (by show 2 * 0 + 0 ≤ _; decide) (hb hbytes d6) (⟨rfl, hB.mv X0.warmed.alike hh0, f1.al X0.warmed.alike, f2.al X0.warmed.alike, hA.mv X0.warmed.alike hh0, s1.there X0.warmed.alike hh0, hz, l0, by omega, l2, fun i hi => by rw [Nat.zero_add]; exact hp i hi⟩)
  have e0 := Got.mv _ s₁ s _ _ hh0.symm (Vm.Alike.refl _) rfl E3
  obtain rfl := e0.1
  have c4 : Steps p.tables e below (s₁.setTop (entryFrame m #[.ref a, .ref b] 2)) (T3.setTop (mkF m 9 #[.val (.ref a), .val (.ref b)] [])) := g3
  exact ⟨T3, none, _, _, _, X3, by simp, rfl, by omega, (fun _ => rfl), e0, fun fs hl => c4.trans (X3.returnOut hexec hret (hb hbytes d9) hl)⟩
theorem pays {l : Launch} {R : Room} {p : Program} {e : Env} {below : List Frame} {s : State} {sargs : Array Value} {len W : Nat} (a : Addr) (D : Cell) (fV fC : Field) (b : Addr) (A : Cell) (z : Int32) (htab : tab.before sargs s = true) (hfr : 4 ≤ R.frames) (hlo : W + 65 ≤ R.locals) :
    Back l R p e below s sargs yN len W (fun A₁ a₁ => A₁.cells + 1 ≤ R.cells ∧ A₁.slots + A.slots.size ≤ R.slots ∧ P a D fV fC b A z a₁ A₁.U) (fun A₁ _ v₁ B₁ => E a D fV fC A v₁ A₁.U B₁.U ∧ B₁.locs = A₁.locs ++ [⟨a, fC.slot⟩, ⟨a, fV.slot⟩] ∧ B₁.cells = A₁.cells + 1 ∧ B₁.slots = A₁.slots + A.slots.size) :=
  (law l a D fV fC b A z).pays htab hfr (by omega)
end New1
/-- the byte, read back as charAt reads it, is the char -/
theorem lo8_mask {x : Int32} (h0 : ¬ x < 0) (h1 : ¬ 255 < x) : lo8 x &&& 255 = x := by
  have t : ∀ k : Fin 256, lo8 (Int32.ofNat k.val) &&& 255 = Int32.ofNat k.val := by decide +kernel
  rw [Int32.lt_iff_toInt_lt] at h0 h1
  have e0 : (0 : Int32).toInt = 0 := rfl
  have e1 : (255 : Int32).toInt = 255 := rfl
  obtain ⟨k, hk⟩ : ∃ k : Nat, x.toInt = k := ⟨x.toInt.toNat, by omega⟩
  have hx : x = Int32.ofNat k := Int32.toInt_inj.mp (by rw [hk, Int32.toInt_ofNat_small (by omega)])
  rw [hx]
  exact t ⟨k, by omega⟩
end StrChars
namespace StrChars.Road
open Jvm Sem ClassFile Op Lib Jvm.Stand Jvm.Free Jvm.Free.XT
open Jvm.Lib.Cold (StaticIs)
abbrev ST : String := "java/lang/String"
/-- every table word that New1's law asks, flat -/
abbrev words : List Jvm.Cond := [.code New1.yN New1.yB 2 none, .initialized ST, .methodLink ST 27 New4.yN, .instanceMethod New4.yN,
  .code New4.yN New4.yB 6 none, .fieldLink ST 38 ST "COMPACT_STRINGS" "Z", .laysFinal ST ST "value" "[B", .fieldLink ST 9 ST "value" "[B", .laysFinal ST ST "coder" "B", .fieldLink ST 15 ST "coder" "B",
  .methodLink ST 1 Lib.objectInit, .instanceMethod Lib.objectInit, .code Lib.objectInit ⟨#[0xb1]⟩ 1 none, .methodLink ST 177 Cmp3.yN, .static Cmp3.yN, .methodLink ST 47 CodL.yN, .static CodL.yN,
  .code Cmp3.yN Cmp3.yB 6 (some (.array .byte)), .initialized U16, .arrayClass .byte, .methodLink U16 115 Cmp5.yN, .static Cmp5.yN, .code Cmp5.yN Cmp5.yB 7 (some .int), .code CodL.yN CodL.yB 2 (some .byte)]
theorem tab_of {a : Array Value} {s : State} (h : ∀ w ∈ words, w.before a s = true) : New1.tab.before a s = true := by
  have h5 : Cmp5.tab.before a s = true := unparts (wk h (.code Cmp5.yN Cmp5.yB 7 (some .int))) (wks h (.initialized Cmp5.yN.cls :: Cmp5.site))
  have hc : CodL.tab.before a s = true := unparts (wk h (.code CodL.yN CodL.yB 2 (some .byte))) (wks h (.initialized CodL.yN.cls :: CodL.site))
  have q5 : ∀ w ∈ Cmp5.tab :: words, w.before a s = true := fun w hw => (List.mem_cons.mp hw).elim (fun e => e ▸ h5) (h w)
  have h3 : Cmp3.tab.before a s = true := unparts (wk q5 (.code Cmp3.yN Cmp3.yB 6 (some (.array .byte)))) (wks q5 (.initialized Cmp3.yN.cls :: Cmp3.site))
  have q3 : ∀ w ∈ Cmp3.tab :: CodL.tab :: words, w.before a s = true := fun w hw => (List.mem_cons.mp hw).elim (fun e => e ▸ h3) fun hw => (List.mem_cons.mp hw).elim (fun e => e ▸ hc) (h w)
  have h4 : New4.tab.before a s = true := unparts (wk q3 (.code New4.yN New4.yB 6 none)) (wks q3 (.initialized New4.yN.cls :: New4.site))
  have q4 : ∀ w ∈ New4.tab :: words, w.before a s = true := fun w hw => (List.mem_cons.mp hw).elim (fun e => e ▸ h4) (h w)
  exact unparts (wk q4 (.code New1.yN New1.yB 2 none)) (wks q4 (.initialized New1.yN.cls :: New1.site))
/-- the words ride from the start Z to the walk's own state -/
theorem moved {Z s : State} {a0 args : Array Value} (hZ : Z.Warmed39 s.vm) (hw : ∀ d ∈ words, d.before a0 Z = true) : ∀ d ∈ words, d.before args s = true := fun d hd => by
  have q := hw d hd
  have t : ∀ d ∈ words, d = .arrayClass .byte ∨ (d.onTables && d.keepsFace) = true := by decide +kernel
  rcases t d hd with rfl | t
  · exact RoadKit.mvA hZ q
  · exact RoadKit.mv hZ q t
/-- WHAT COMES BACK, over the tables of the start Z: h the heap at the call, h' behind it -/
def Q (Z : State) (x : Addr) (A : Cell) (h : Heap) (v : Option Value) (h' : Heap) (L : List Loc) : Prop := v = none ∧ (∀ y ∈ L, y.base = x) ∧ RoadKit.Keep h h' [x] ∧ h'.size = h.size + 1 ∧ RoadKit.Exa Z h' x ST ∧ RoadKit.Fld Z h' x ST "value" "[B" (.ref h.size) ∧ RoadKit.Fld Z h' x ST "coder" "B" (.int 0) ∧
  (∃ V : Cell, RoadKit.Arr Z h' h.size V .byte ∧ V.vm = .none ∧ Z.vm.findClass "[B" = some V.cls ∧ V.slots.size = A.slots.size ∧ ∀ j, j < A.slots.size → V.slots[j]? = some (.int (lo8 (cv A j)))) ∧
  ∀ (O n d : String) (w : Value), RoadKit.Fld Z h x O n d w → RoadKit.slotOf Z O n d ≠ RoadKit.slotOf Z ST "value" "[B" → RoadKit.slotOf Z O n d ≠ RoadKit.slotOf Z ST "coder" "B" → RoadKit.Fld Z h' x O n d w
/-- **new String(chars) AT A CALL, IN THE ROAD'S FORM**: for specialBack behind newO: x the fresh String, b the char[] with the cell A -/
theorem back {p : Program} {l : Launch} {e : Env} {R : Room} {s : State} {args : Array Value} {below : List Frame} {len W : Nat} {Z : State} {a0 : Array Value} {h : Heap} (hZ : Z.Warmed39 s.vm) (hw : ∀ d ∈ words, d.before a0 Z = true) {kI : Nat} (wi : (Jvm.Cond.instantiable ST kI).before a0 Z = true)
    {x b : Addr} {A : Cell} {z : Int32} {v0 c0 : Value} (E : RoadKit.Exa Z h x ST) (V : RoadKit.Fld Z h x ST "value" "[B" v0) (C : RoadKit.Fld Z h x ST "coder" "B" c0) (K : RoadKit.Arr Z h b A .char) (hty : Typed .char A) (S : RoadKit.Sta Z h ST "COMPACT_STRINGS" "Z" (.int z)) (hz : ¬ z = 0)
    (l0 : 0 < A.slots.size) (l2 : A.slots.size ≤ 536870912) (hp : ∀ i, i < A.slots.size → ¬ 255 < cv A i) (hfr : 4 ≤ R.frames) (hlo : W + 65 ≤ R.locals) :
    Back l R p e below s args New1.yN len W (fun P a => a = #[.ref x, .ref b] ∧ P.U.heap = h ∧ P.cells + 1 ≤ R.cells ∧ P.slots + A.slots.size ≤ R.slots)
      (fun P _ v B => ∃ L, Q Z x A h v B.U.heap L ∧ B.locs = P.locs ++ L ∧ B.cells = P.cells + 1 ∧ B.slots = P.slots + A.slots.size) := by
  intro m meth c P g ig mk a X hg hsize hdg hW hn hp'
  obtain ⟨rfl, rfl, r1, r2⟩ := hp'
  have al : Z.vm.Alike P.U.vm := hZ.alike.trans X.warmed.alike
  obtain ⟨D, cfV, kV, iV, fV, hD, gV, stV, knV, obV, asV, slV⟩ := id V
  obtain ⟨D', cfC, kC, iC, fC, hD', gC, stC, -, -, asC, slC⟩ := id C
  cases hD.symm.trans hD'
  obtain ⟨D2, kD, e1, e2, e3, e4, e5⟩ := id E
  cases hD.symm.trans e1
  obtain ⟨c2, k2, i1, i2, i3, -⟩ := Cond.instantiable_spec wi
  cases e2.symm.trans i1
  cases e3.symm.trans i2
  obtain ⟨kU, u1, u2⟩ := al.2.2 _ _ e3
  have hB : Blank ST x D P.U := ⟨hD, ⟨knV, fun q hq => by rw [hq] at obV; cases obV⟩, by rw [al.findClass]; exact e2, kU, u1, by rw [u2]; exact i3, by rw [u2]; exact e5 i3⟩
  have F1 : Found ST "value" "[B" fV P.U := ⟨SBG.found_only al ⟨cfV, kV, iV, gV⟩, stV⟩
  have F2 : Found ST "coder" "B" fC P.U := ⟨SBG.found_only al ⟨cfC, kC, iC, gC⟩, stC⟩
  have hA : Ch b A P.U := ⟨⟨K.1, State.isArrayOf_alike al K.2.1, K.2.2, by omega⟩, hty⟩
  have hS : StaticIs P.U ST "COMPACT_STRINGS" "Z" (.int z) := by
    obtain ⟨cfS, iS, kS, fS, st, cS, t1, t2, t3, t4, t5, t6, t7⟩ := S
    exact StaticIs.there (s := { Z with heap := P.U.heap }) ⟨cfS, iS, kS, fS, st, cS, t1, t2, t3, t4, t5, (fun q => by rw [q] at t6; cases t6), t7⟩ al rfl
  obtain ⟨v, B, X', ⟨⟨hv, E', V', q1, q2, q3, q4, q5, q6, q7, q8, q9, q10, q11⟩, hl, hc, hs⟩, st⟩ := New1.pays x D fV fC b A z (tab_of (moved hZ hw)) hfr hlo m meth c P g ig mk _ X hg hsize hdg hW hn ⟨r1, r2, rfl, hB, F1, F2, hA, hS, hz, l0, l2, hp⟩
  have al' : Z.vm.Alike B.U.vm := hZ.alike.trans X'.warmed.alike
  have hsz : E'.slots.size = D.slots.size := by
    obtain ⟨-, -, -, kB, w1, w2, w3⟩ := q1
    obtain ⟨kB', y1, y2⟩ := al'.2.2 _ _ e3
    rw [q2.2.1] at w1
    cases w1.symm.trans y1
    rw [w3, e5 i3, y2]
  refine ⟨v, B, X', ⟨_, ⟨hv, ?_, ⟨by omega, fun y cy hy hn' => q10 y cy (by simpa using hn') hy, fun y cy hy => ?_⟩, q11, ⟨E', _, q1.1, by rw [q2.2.1]; exact e2, by rw [q2.2.1]; exact e3, by rw [q2.1]; exact obV, fun _ => by rw [hsz]; exact e5 i3⟩,
    ⟨E', cfV, kV, iV, fV, q1.1, gV, stV, by rw [q2.1]; exact knV, by rw [q2.1]; exact obV, by rw [q2.2.1]; exact asV, q3⟩, ⟨E', cfC, kC, iC, fC, q1.1, gC, stC, by rw [q2.1]; exact knV, by rw [q2.1]; exact obV, by rw [q2.2.1]; exact asC, q4⟩,
    ⟨V', ⟨q5.1, State.isArrayOf_alike al'.symm q5.2.1, q5.2.2.1⟩, q6, by rw [← al'.findClass]; exact q7, q8, fun j hj => by have := q9 j hj; rwa [Nat.zero_add] at this⟩, fun O n d w F n1 n2 => ?_⟩, hl, hc, hs⟩, st⟩
  · intro y hy
    simp only [List.mem_cons, List.not_mem_nil, or_false] at hy
    rcases hy with rfl | rfl <;> rfl
  · by_cases q : y = x
    · subst q
      cases hD.symm.trans hy
      exact ⟨E', q1.1, q2.2.1, q2.1, hsz⟩
    · exact ⟨cy, q10 y cy q hy, rfl, rfl, rfl⟩
  · obtain ⟨D3, cf, k, i, f, g1, g2, g3, g4, g5, g6, g7⟩ := F
    cases hD.symm.trans g1
    simp only [RoadKit.slotOf, g2, gV, gC, Option.map_some, Option.getD_some] at n1 n2
    exact ⟨E', cf, k, i, f, q1.1, g2, g3, by rw [q2.1]; exact g4, by rw [q2.1]; exact g5, by rw [q2.2.1]; exact g6, by rw [q2.2.2 f.slot (by simp [n1, n2])]; exact g7⟩
end StrChars.Road
namespace StrChars.Road
open Jvm Sem ClassFile Op Lib Jvm.Stand Jvm.Free Jvm.Free.XT
/-- WHAT COMES BACK, the byte[] as a list of values -/
def QA (Z : State) (x : Addr) (zn : Int32) (cs : List Int32) (h : Heap) (v : Option Value) (h' : Heap) (L : List Loc) : Prop := v = none ∧ (∀ y ∈ L, y.base = x) ∧ RoadKit.Keep h h' [x] ∧ h'.size = h.size + 1 ∧ RoadKit.Exa Z h' x ST ∧ RoadKit.Fld Z h' x ST "value" "[B" (.ref h.size) ∧ RoadKit.Fld Z h' x ST "coder" "B" (.int 0) ∧
  (∃ kb, Z.vm.findClass "[B" = some kb ∧ RoadKit.Arv Z h' h.size kb .byte zn (cs.map fun c => .int (lo8 c)) (.int 0)) ∧
  ∀ (O n d : String) (w : Value), RoadKit.Fld Z h x O n d w → RoadKit.slotOf Z O n d ≠ RoadKit.slotOf Z ST "value" "[B" → RoadKit.slotOf Z O n d ≠ RoadKit.slotOf Z ST "coder" "B" → RoadKit.Fld Z h' x O n d w
/-- **new String(chars) AT A CALL, THE ARRAYS AS LISTS**: the char[] at b holds cs, not empty, no char above 255 -/
theorem backArv {p : Program} {l : Launch} {e : Env} {R : Room} {s : State} {args : Array Value} {below : List Frame} {len W : Nat} {Z : State} {a0 : Array Value} {h : Heap} (hZ : Z.Warmed39 s.vm) (hw : ∀ d ∈ words, d.before a0 Z = true) {kI : Nat} (wi : (Jvm.Cond.instantiable ST kI).before a0 Z = true)
    {x b : Addr} {k : ClassId} {zn z : Int32} {cs : List Int32} {dv v0 c0 : Value} (E : RoadKit.Exa Z h x ST) (V : RoadKit.Fld Z h x ST "value" "[B" v0) (C : RoadKit.Fld Z h x ST "coder" "B" c0) (K : RoadKit.Arv Z h b k .char zn (cs.map Value.int) dv) (S : RoadKit.Sta Z h ST "COMPACT_STRINGS" "Z" (.int z)) (hz : ¬ z = 0)
    (hlen : zn.toNatClampNeg = cs.length) (h0 : 0 < cs.length) (hbig : cs.length ≤ 536870912) (hall : ∀ c ∈ cs, ¬ 255 < c) (hfr : 4 ≤ R.frames) (hlo : W + 65 ≤ R.locals) :
    Back l R p e below s args New1.yN len W (fun P a => a = #[.ref x, .ref b] ∧ P.U.heap = h ∧ P.cells + 1 ≤ R.cells ∧ P.slots + cs.length ≤ R.slots)
      (fun P _ v B => ∃ L, QA Z x zn cs h v B.U.heap L ∧ B.locs = P.locs ++ L ∧ B.cells = P.cells + 1 ∧ B.slots = P.slots + cs.length) := by
  obtain ⟨A, K1, K2, K3, K4, K5, K6⟩ := K
  have e : A.slots.size = cs.length := K3.trans hlen
  have hat : ∀ (i : Nat) (hi : i < cs.length), A.slots[i]? = some (.int cs[i]) := fun i hi => by rw [K5 i (by omega)]; simp [List.getD_eq_getElem?_getD, hi]
  have hcv : ∀ (i : Nat) (hi : i < cs.length), cv A i = cs[i] := fun i hi => by unfold cv; rw [hat i hi]
  have hty : Typed .char A := fun i v hv => by
    have hi : i < A.slots.size := (Array.getElem?_eq_some_iff.mp hv).1
    have q := K5 i hi
    rw [hv] at q
    rw [Option.some.inj q]
    exact K6 i hi
  refine Back.mono (back hZ hw wi E V C K1 hty S hz (by omega) (by omega) (fun i hi => by rw [hcv i (by omega)]; exact hall _ (List.getElem_mem _)) hfr hlo) (fun P a hp => ⟨hp.1, hp.2.1, hp.2.2.1, by rw [e]; exact hp.2.2.2⟩) (fun P a v B hp hq => ?_)
  obtain ⟨L, ⟨q1, q2, q3, q4, q5, q6, q7, ⟨V', v1, v2, v3, v4, v5⟩, q9⟩, hl, hc, hs⟩ := hq
  refine ⟨L, ⟨q1, q2, q3, q4, q5, q6, q7, ⟨V'.cls, v3, V', v1, rfl, by rw [v4, e, hlen], K4, fun i hi => ?_, fun i hi => ?_⟩, q9⟩, hl, hc, by rw [hs, e]⟩
  · have hi' : i < cs.length := by omega
    rw [v5 i (by omega), hcv i hi']; simp [List.getD_eq_getElem?_getD, hi']
  · have hi' : i < cs.length := by omega
    simp only [List.getD_eq_getElem?_getD, List.getElem?_map, List.getElem?_eq_getElem hi', Option.map_some, Option.getD_some]
    exact fits_lo8 _
end StrChars.Road
namespace StrChars.Road
open Jvm Sem ClassFile Op Lib Jvm.Stand Jvm.Free Jvm.Free.XT
/-- WHAT COMES BACK, in the writer's own shape -/
def QV (Z : State) (x : Addr) (N : Int32) (bs : List Int32) (h : Heap) (n0 : Nat) (v : Option Value) (h' : Heap) (L : List Loc) : Prop := v = none ∧ RoadKit.Fr n0 L ∧ RoadKit.Keep h h' [x] ∧ RoadKit.Exa Z h' x ST ∧ RoadKit.Fld Z h' x ST "coder" "B" (.int 0) ∧
  ∃ (t : Addr) (kb : ClassId), n0 ≤ t ∧ h.size ≤ t ∧ ¬ t = x ∧ RoadKit.Fld Z h' x ST "value" "[B" (.ref t) ∧ RoadKit.Arv Z h' t kb .byte N (bs.map Value.int) (.int 0)
/-- **new String(chars) AT A CALL, FOR THE WRITER**: a char[] of n known ints, each 0 to 255 -/
theorem backV {p : Program} {l : Launch} {e : Env} {R : Room} {s : State} {args : Array Value} {below : List Frame} {len W : Nat} {Z : State} {a0 : Array Value} {h : Heap} (hZ : Z.Warmed39 s.vm) (hw : ∀ d ∈ words, d.before a0 Z = true) {kI : Nat} (wi : (Jvm.Cond.instantiable ST kI).before a0 Z = true)
    {x b : Addr} {kC : ClassId} {cs bs : List Int32} {d v0 c0 : Value} {z N : Int32} {n n0 : Nat} (hx0 : n0 ≤ x) (hh0 : n0 ≤ h.size) (E : RoadKit.Exa Z h x ST) (V : RoadKit.Fld Z h x ST "value" "[B" v0) (C : RoadKit.Fld Z h x ST "coder" "B" c0) (K : RoadKit.Arv Z h b kC .char N (cs.map Value.int) d) (S : RoadKit.Sta Z h ST "COMPACT_STRINGS" "Z" (.int z)) (hz : ¬ z = 0)
    (hn : cs.length = n) (hN : N = Int32.ofNat n) (l0 : 0 < n) (l2 : n ≤ 4000) (hp : ∀ c ∈ cs, ¬ c < 0 ∧ ¬ (255 : Int32) < c) (hb : bs = cs.map (fun c => c.toInt8.toInt32)) (hfr : 4 ≤ R.frames) (hlo : W + 65 ≤ R.locals) :
    Back l R p e below s args (⟨"java/lang/String", "<init>", "([C)V"⟩ : MethodName) len W (fun P a => a = #[.ref x, .ref b] ∧ P.U.heap = h ∧ P.cells + 1 ≤ R.cells ∧ P.slots + n ≤ R.slots)
      (fun P _ v B => ∃ L, QV Z x N bs h n0 v B.U.heap L ∧ B.locs = P.locs ++ L ∧ B.cells = P.cells + 1 ∧ B.slots = P.slots + n) := by
  subst hn hN hb
  refine Back.mono (backArv hZ hw wi E V C K S hz (n32 (by omega)) l0 (by omega) (fun c hc => (hp c hc).2) hfr hlo) (fun P a hp => hp) (fun P a v B hp hq => ?_)
  obtain ⟨L, ⟨q1, q2, q3, q4, q5, q6, q7, ⟨kb, v1, v2⟩, q9⟩, hl, hc, hs⟩ := hq
  exact ⟨L, ⟨q1, fun y hy => by rw [q2 y hy]; exact hx0, q3, q5, q7, h.size, kb, hh0, Nat.le_refl _, Nat.ne_of_gt E.lt, q6, by rw [List.map_map]; exact v2⟩, hl, hc, hs⟩
end StrChars.Road
namespace StrChars
open Jvm Sem ClassFile Op Lib Jvm.Stand Jvm.Free.XT Jvm.Free.ALB Jvm.Free.JM Jvm.Free
open Jvm.Lib.Cold (StaticIs)
def hi8 (x : Int32) : Int32 := lo8 (x >>> ((8 : Int32) &&& 31))
/-- what StringUTF16.getChar makes of two bytes -/
def pairCh (u v : Int32) : Int32 := (((u &&& 255) <<< ((0 : Int32) &&& 31)) ||| ((v &&& 255) <<< ((8 : Int32) &&& 31))).toUInt32.toUInt16.toUInt32.toInt32
theorem shr0 (c : Int32) : c >>> ((0 : Int32) &&& 31) = c := by
  have e : ((0 : Int32) &&& 31) = 0 := by decide
  rw [e]
  apply Int32.toBitVec_inj.mp
  rw [Int32.toBitVec_shiftRight]
  have e1 : ((0 : Int32).toBitVec.smod 32) = 0#32 := by decide
  rw [e1, BitVec.sshiftRight_eq']
  exact BitVec.sshiftRight_zero
theorem lo8_and (x : Int32) : (lo8 x &&& 255).toBitVec.toNat = x.toBitVec.toNat % 256 := by
  have h : (lo8 x).toBitVec = (x.toBitVec.signExtend 8).signExtend 32 := by rw [lo8, Int8.toBitVec_toInt32, Int32.toBitVec_toInt8]
  rw [Int32.toBitVec_and, BitVec.toNat_and, h]
  have e : ((x.toBitVec.signExtend 8).signExtend 32).toNat % 256 = x.toBitVec.toNat % 256 := by
    rw [BitVec.toNat_signExtend]
    have hlt := x.toBitVec.isLt
    simp only [BitVec.toNat_setWidth, BitVec.toNat_signExtend]
    split <;> split <;> omega
  rw [← e]
  exact Nat.and_two_pow_sub_one_eq_mod _ 8
theorem pair_says {c : Int32} (h0 : ¬ c < 0) (h1 : ¬ 65535 < c) : pairCh (lo8 c) (hi8 c) = c := by
  rw [Int32.lt_iff_toInt_lt] at h0 h1
  have e0 : (0 : Int32).toInt = 0 := rfl
  have e1 : (65535 : Int32).toInt = 65535 := rfl
  have hc : c.toInt = c.toBitVec.toNat := by
    have := c.toBitVec.isLt
    have e : c.toInt = c.toBitVec.toInt := rfl
    rw [e] at h0 h1
    rw [e]
    rw [BitVec.toInt_eq_toNat_cond] at h0 h1 ⊢
    split at h0 <;> split <;> omega
  have hn : c.toBitVec.toNat < 65536 := by omega
  have a1 := lo8_and c
  have a2 : (hi8 c &&& 255).toBitVec.toNat = c.toBitVec.toNat / 256 := by
    rw [hi8, lo8_and]
    have e : ((8 : Int32) &&& 31) = 8 := by decide
    rw [e, Int32.toBitVec_shiftRight]
    have e2 : ((8 : Int32).toBitVec.smod 32) = 8#32 := by decide
    rw [e2, BitVec.sshiftRight_eq', BitVec.toNat_sshiftRight_of_msb_false (by rw [BitVec.msb_eq_false_iff_two_mul_lt]; omega)]
    show c.toBitVec.toNat >>> 8 % 256 = _
    rw [Nat.shiftRight_eq_div_pow]
    omega
  unfold pairCh
  apply Int32.toBitVec_inj.mp
  apply BitVec.eq_of_toNat_eq
  have f0 : ((0 : Int32) &&& 31) = 0 := by decide
  have f8 : ((8 : Int32) &&& 31) = 8 := by decide
  rw [f0, f8]
  have g : (((lo8 c &&& 255) <<< (0 : Int32)) ||| ((hi8 c &&& 255) <<< (8 : Int32))).toBitVec.toNat = c.toBitVec.toNat := by
    rw [Int32.toBitVec_or, Int32.toBitVec_shiftLeft, Int32.toBitVec_shiftLeft]
    have s0 : ((0 : Int32).toBitVec.smod 32) = 0#32 := by decide
    have s8 : ((8 : Int32).toBitVec.smod 32) = 8#32 := by decide
    rw [s0, s8, BitVec.toNat_or]
    simp only [BitVec.shiftLeft_eq', BitVec.toNat_shiftLeft, a1, a2]
    show (c.toBitVec.toNat % 256) <<< 0 % 2 ^ 32 ||| (c.toBitVec.toNat / 256) <<< 8 % 2 ^ 32 = _
    rw [Nat.shiftLeft_zero, Nat.mod_eq_of_lt (show c.toBitVec.toNat % 256 < 2 ^ 32 by omega), Nat.mod_eq_of_lt (show (c.toBitVec.toNat / 256) <<< 8 < 2 ^ 32 by rw [Nat.shiftLeft_eq]; omega), Nat.or_comm, ← Nat.shiftLeft_add_eq_or_of_lt (by omega), Nat.shiftLeft_eq]
    omega
  show BitVec.toNat (((((lo8 c &&& 255) <<< (0 : Int32)) ||| ((hi8 c &&& 255) <<< (8 : Int32))).toBitVec.setWidth 16).setWidth 32) = _
  rw [BitVec.toNat_setWidth, BitVec.toNat_setWidth, g]
  omega
end StrChars
namespace StrChars
open Jvm Sem ClassFile Op Lib Jvm.Stand Jvm.Free.XT Jvm.Free.ALB Jvm.Free.JM Jvm.Free
open Jvm.Lib.Cold (StaticIs)
theorem shr1 {n : Nat} (h : 2 * n < 2 ^ 31) : Int32.ofNat (2 * n) >>> ((1 : Int32) &&& 31) = Int32.ofNat n := by
  have e : ((1 : Int32) &&& 31) = 1 := by decide
  rw [e]
  apply Int32.toBitVec_inj.mp
  rw [Int32.toBitVec_shiftRight]
  have e1 : ((1 : Int32).toBitVec.smod 32) = 1#32 := by decide
  have hm : (BitVec.ofNat 32 (2 * n)).toNat = 2 * n := by rw [BitVec.toNat_ofNat, Nat.mod_eq_of_lt (by omega)]
  rw [e1, BitVec.sshiftRight_eq']
  apply BitVec.eq_of_toNat_eq
  show ((BitVec.ofNat 32 (2 * n)).sshiftRight 1).toNat = (BitVec.ofNat 32 n).toNat
  rw [BitVec.toNat_sshiftRight_of_msb_false (by rw [BitVec.msb_eq_false_iff_two_mul_lt, hm]; omega), hm, BitVec.toNat_ofNat, Nat.shiftRight_eq_div_pow]
  omega
/-- the array's cell V codes the n chars f 0 .. f (n - 1) by the coder cd, as the JDK does: coder 1 just where some char is above 255 -/
def Cod (cd : Int32) (n : Nat) (f : Nat → Int32) (V : Cell) : Prop := (cd = 0 ∧ V.slots.size = n ∧ ∀ j, j < n → V.slots[j]? = some (.int (lo8 (f j))) ∧ ¬ 255 < f j) ∨ (cd = 1 ∧ V.slots.size = 2 * n ∧ (∀ j, j < n → V.slots[2 * j]? = some (.int (lo8 (f j))) ∧ V.slots[2 * j + 1]? = some (.int (hi8 (f j)))) ∧ ∃ j, j < n ∧ 255 < f j)
theorem Cod.cd {cd : Int32} {n : Nat} {f : Nat → Int32} {V : Cell} (h : Cod cd n f V) : cd = 0 ∨ cd = 1 := h.imp (fun q => q.1) fun q => q.1
theorem Cod.len {cd : Int32} {n : Nat} {f : Nat → Int32} {V : Cell} (h : Cod cd n f V) (hs : V.slots.size < 2 ^ 31) : Int32.ofNat V.slots.size >>> (cd &&& 31) = Int32.ofNat n := by
  rcases h with ⟨rfl, h, -⟩ | ⟨rfl, h, -⟩
  · rw [shr0, h]
  · rw [h, shr1 (by omega)]
/-- **x is a String of the n chars f 0 .. f (n - 1)**, Latin-1 or UTF-16; its array at t has the cell V -/
def Txt (x t : Addr) (V : Cell) (cd : Int32) (n : Nat) (f : Nat → Int32) (U : State) : Prop := Exact "java/lang/String" x U ∧ Has x "java/lang/String" "value" "[B" (.ref t) U ∧ Has x "java/lang/String" "coder" "B" (.int cd) U ∧ XT.Arr .byte t V U ∧ Cod cd n f V ∧ ∀ j, j < n → ¬ f j < 0 ∧ ¬ 65535 < f j
theorem Txt.mv {x t : Addr} {V : Cell} {cd : Int32} {n : Nat} {f : Nat → Int32} {U U' : State} (h : Txt x t V cd n f U) (hal : U.vm.Alike U'.vm) (hh : U'.heap = U.heap) : Txt x t V cd n f U' := ⟨h.1.mv hal hh, h.2.1.mv hal hh, h.2.2.1.mv hal hh, h.2.2.2.1.mv hal hh, h.2.2.2.2⟩
namespace Cdr
def yN : MethodName := ⟨"java/lang/String", "coder", "()B"⟩
abbrev yB : ByteArray := jdk_42_method_152_code
theorem d0 : decode yB 0 = .ok (.getstatic 38, 3) := by decide +kernel
theorem d3 : decode yB 3 = .ok (.ifCond (.eq) 10, 3) := by decide +kernel
theorem d6 : decode yB 6 = .ok (.aload_n 0, 1) := by decide +kernel
theorem d7 : decode yB 7 = .ok (.getfield 15, 3) := by decide +kernel
theorem d10 : decode yB 10 = .ok (.goto 4, 3) := by decide +kernel
theorem d14 : decode yB 14 = .ok (.ireturn, 1) := by decide +kernel
def site : List Cond := [.fieldLink "java/lang/String" 38 "java/lang/String" "COMPACT_STRINGS" "Z", .fieldLink "java/lang/String" 15 "java/lang/String" "coder" "B"]
def tab : Cond := tabOf yN yB 1 (some .byte) site
def P (x : Addr) (cd z : Int32) (args : Array Value) (s : State) : Prop := args = #[.ref x] ∧ Has x "java/lang/String" "coder" "B" (.int cd) s ∧ (cd = 0 ∨ cd = 1) ∧ StaticIs s "java/lang/String" "COMPACT_STRINGS" "Z" (.int z) ∧ ¬ z = 0
def E (cd : Int32) (r : Option Value) (s u : State) : Prop := XT.PureE (some (.int cd)) r s u
theorem law (l : Launch) (x : Addr) (cd z : Int32) : Law l yN 1 0 0 0 yB 1 (some .byte) site (P x cd z) (E cd) [] 0 0 := by
  refine Law.of_walk (plainFor_of_name (by decide +kernel)) (by decide +kernel) (by decide +kernel) (by decide) (fun _ _ h => by rw [h.1]; rfl) (fun _ U U' hal hh h => ⟨h.1, h.2.1.mv hal hh, h.2.2.1, h.2.2.2.1.there hal hh, h.2.2.2.2⟩) (fun r U U' V V' h1 hal h2 h => XT.PureE.mv r U U' V V' h1 hal h2 h) ?_
  intro p e s m args below meth c s₁ X0 hexec hbytes hml hret hlk hnm hown hh0 W hP
  obtain ⟨rfl, hx, hc, s1, hz⟩ := hP
  have c1 : Steps p.tables e below (s₁.setTop (entryFrame m #[.ref x] 1)) (s₁.setTop (mkF m 0 #[.val (.ref x)] [])) := entry rfl
  obtain ⟨T2, X2, q2, st2⟩ := X0.sget hexec hown (wk W (.fieldLink "java/lang/String" 38 "java/lang/String" "COMPACT_STRINGS" "Z")) s1 (fun _ _ h => by rw [hh0]; exact h) (g := (mkF m 0 #[.val (.ref x)] [])) rfl (hb hbytes d0)
  have hh2 := q2.trans hh0
  have c3 : Steps p.tables e below (s₁.setTop (entryFrame m #[.ref x] 1)) (T2.setTop (mkF m 7 #[.val (.ref x)] [.ref x])) := (c1.trans (st2 _ (Steps.refl _))).trans (by
    refine XS.ifNo X2.here hexec rfl (hb hbytes d3) rfl (i0_eq_f hz) ?_
    refine XS.aloadN X2.here hexec rfl (hb hbytes d6) rfl rfl ?_
    exact Steps.refl _)
  obtain ⟨T4, X4, q4, st4⟩ := X2.hget hexec hown (wk W (.fieldLink "java/lang/String" 15 "java/lang/String" "coder" "B")) (hx.mv X2.warmed.alike hh2) (g := (mkF m 7 #[.val (.ref x)] [.ref x])) rfl (rest := []) rfl (hb hbytes d7)
  have c5 : Steps p.tables e below (s₁.setTop (entryFrame m #[.ref x] 1)) (T4.setTop (mkF m 14 #[.val (.ref x)] [.int cd])) := (c3.trans (st4 _ (Steps.refl _))).trans (by
    refine XS.goto X4.here hexec rfl (pc0 := 10) rfl (hb hbytes d10) (by decide) rfl ?_
    exact Steps.refl _)
  exact ⟨T4, some (.int cd), _, _, _, X4, rfl, rfl, rfl, (fun h => by cases h), ⟨rfl, q4.trans hh2⟩, fun fs hl => c5.trans (X4.ireturnOut hexec hret (by rcases hc with rfl | rfl <;> rfl) (Or.inr (Or.inr (Or.inl rfl))) (hb hbytes d14) hl)⟩
end Cdr
namespace Len
def yN : MethodName := ⟨"java/lang/String", "length", "()I"⟩
abbrev yB : ByteArray := jdk_42_method_54_code
theorem d0 : decode yB 0 = .ok (.aload_n 0, 1) := by decide +kernel
theorem d1 : decode yB 1 = .ok (.getfield 9, 3) := by decide +kernel
theorem d4 : decode yB 4 = .ok (.arraylength, 1) := by decide +kernel
theorem d5 : decode yB 5 = .ok (.aload_n 0, 1) := by decide +kernel
theorem d6 : decode yB 6 = .ok (.invokevirtual 335, 3) := by decide +kernel
theorem d9 : decode yB 9 = .ok (.ishr, 1) := by decide +kernel
theorem d10 : decode yB 10 = .ok (.ireturn, 1) := by decide +kernel
def site : List Cond := [.fieldLink "java/lang/String" 9 "java/lang/String" "value" "[B", Cdr.tab] ++ virtW "java/lang/String" 335 "java/lang/String" Cdr.yN Cdr.yN
def tab : Cond := tabOf yN yB 1 (some .int) site
def P (x t : Addr) (V : Cell) (cd : Int32) (n : Nat) (f : Nat → Int32) (z : Int32) (args : Array Value) (s : State) : Prop := args = #[.ref x] ∧ Txt x t V cd n f s ∧ StaticIs s "java/lang/String" "COMPACT_STRINGS" "Z" (.int z) ∧ ¬ z = 0
def E (n : Nat) (r : Option Value) (s u : State) : Prop := XT.PureE (some (.int (Int32.ofNat n))) r s u
/-- length() of a String of n chars, in either coding -/
theorem law (l : Launch) (x t : Addr) (V : Cell) (cd : Int32) (n : Nat) (f : Nat → Int32) (z : Int32) : Law l yN 1 0 1 13 yB 1 (some .int) site (P x t V cd n f z) (E n) [] 0 0 := by
  refine Law.of_walk (plainFor_of_name (by decide +kernel)) (by decide +kernel) (by decide +kernel) (by decide) (fun _ _ h => by rw [h.1]; rfl) (fun _ U U' hal hh h => ⟨h.1, h.2.1.mv hal hh, h.2.2.1.there hal hh, h.2.2.2⟩) (fun r U U' V V' h1 hal h2 h => XT.PureE.mv r U U' V V' h1 hal h2 h) ?_
  intro p e s m args below meth c s₁ X0 hexec hbytes hml hret hlk hnm hown hh0 W hP
  obtain ⟨rfl, hx, s1, hz⟩ := hP
  have v31 := hx.2.2.2.1.2.2.2
  have c1 : Steps p.tables e below (s₁.setTop (entryFrame m #[.ref x] 1)) (s₁.setTop (mkF m 1 #[.val (.ref x)] [.ref x])) := Steps.trans (entry rfl) (by
    show Steps p.tables e below (s₁.setTop (mkF m 0 #[.val (.ref x)] [])) _
    refine XS.aloadN X0.here hexec rfl (hb hbytes d0) rfl rfl ?_
    exact Steps.refl _)
  obtain ⟨T2, X2, q2, st2⟩ := X0.hget hexec hown (wk W (.fieldLink "java/lang/String" 9 "java/lang/String" "value" "[B")) (hx.mv X0.warmed.alike hh0).2.1 (g := (mkF m 1 #[.val (.ref x)] [.ref x])) rfl (rest := []) rfl (hb hbytes d1)
  have hh2 := q2.trans hh0
  have hx2 := hx.mv X2.warmed.alike hh2
  have c3 : Steps p.tables e below (s₁.setTop (entryFrame m #[.ref x] 1)) (T2.setTop (mkF m 6 #[.val (.ref x)] [.ref x, .int (Int32.ofNat V.slots.size)])) := (c1.trans (st2 _ (Steps.refl _))).trans (by
    refine X2.alen hexec hx2.2.2.2.1 rfl rfl (hb hbytes d4) ?_
    refine XS.aloadN X2.here hexec rfl (hb hbytes d5) rfl rfl ?_
    exact Steps.refl _)
  obtain ⟨v4, T4, X4, E4, g4⟩ := X2.callV hexec (Cdr.law l x cd z) hown (wks W (virtW "java/lang/String" 335 "java/lang/String" Cdr.yN Cdr.yN)) rfl (by decide) (wk W Cdr.tab) (W := 1) (Nat.le_of_ble_eq_true rfl) (Nat.le_of_ble_eq_true rfl) (Nat.le_refl _) (Nat.le_refl _) (hx2.1.fc X2.warmed.alike) hx2.1.is (g := (mkF m 6 #[.val (.ref x)] [.ref x, .int (Int32.ofNat V.slots.size)])) rfl (by rw [hml]; rfl) c3 (argsL := []) (rest := [.int (Int32.ofNat V.slots.size)]) rfl rfl (by show 2 * 0 + (1 + 0) ≤ _; decide) (hb hbytes d6) (⟨rfl, hx2.2.2.1, hx.2.2.2.2.1.cd, s1.there X2.warmed.alike hh2, hz⟩)
  obtain ⟨rfl, q4⟩ := E4
  have c5 : Steps p.tables e below (s₁.setTop (entryFrame m #[.ref x] 1)) (T4.setTop (mkF m 10 #[.val (.ref x)] [.int (Int32.ofNat V.slots.size >>> (cd &&& 31))])) := Steps.trans g4 (by
    refine ishr X4.here hexec rfl (hb hbytes d9) rfl ?_
    exact Steps.refl _)
  rw [hx.2.2.2.2.1.len v31] at c5
  exact ⟨T4, some (.int (Int32.ofNat n)), _, _, _, X4, rfl, rfl, rfl, (fun h => by cases h), ⟨rfl, q4.trans hh2⟩, fun fs hl => c5.trans (X4.ireturnOut hexec hret rfl (Or.inl rfl) (hb hbytes d10) hl)⟩
theorem pays {l : Launch} {R : Room} {p : Program} {e : Env} {below : List Frame} {s : State} {sargs : Array Value} {len W : Nat} (x t : Addr) (V : Cell) (cd : Int32) (n : Nat) (f : Nat → Int32) (z : Int32) (htab : tab.before sargs s = true) (hfr : 2 ≤ R.frames) (hlo : W + 25 ≤ R.locals) :
    Back l R p e below s sargs yN len W (fun A₁ a₁ => A₁.cells + 0 ≤ R.cells ∧ A₁.slots + 0 ≤ R.slots ∧ P x t V cd n f z a₁ A₁.U) (fun A₁ _ v₁ B₁ => E n v₁ A₁.U B₁.U ∧ B₁.locs = A₁.locs ++ [] ∧ B₁.cells = A₁.cells + 0 ∧ B₁.slots = A₁.slots + 0) :=
  (law l x t V cd n f z).pays htab hfr (by omega)
end Len
end StrChars
namespace StrChars.Road
open Jvm Sem ClassFile Op Lib Jvm.Stand Jvm.Free Jvm.Free.XT
open Jvm.Lib.Cold (StaticIs)
theorem consq {a : Array Value} {s : State} {c : Jvm.Cond} {L : List Jvm.Cond} (h0 : c.before a s = true) (h : ∀ w ∈ L, w.before a s = true) : ∀ w ∈ c :: L, w.before a s = true := fun w hw => (List.mem_cons.mp hw).elim (fun e => e ▸ h0) (h w)
/-- the words of String.length(), either coding -/
abbrev wordsLen : List Jvm.Cond := [.code Len.yN Len.yB 1 (some .int), .initialized ST, .fieldLink ST 9 ST "value" "[B", .fieldLink ST 38 ST "COMPACT_STRINGS" "Z", .fieldLink ST 15 ST "coder" "B", .code Cdr.yN Cdr.yB 1 (some .byte), .methodLink ST 335 Cdr.yN, .declares Cdr.yN, .selects ST Cdr.yN Cdr.yN, .instanceMethod Cdr.yN]
theorem tabLen_of {a : Array Value} {s : State} (h : ∀ w ∈ wordsLen, w.before a s = true) : Len.tab.before a s = true := by
  have hc : Cdr.tab.before a s = true := unparts (wk h (.code Cdr.yN Cdr.yB 1 (some .byte))) (wks h (.initialized Cdr.yN.cls :: Cdr.site))
  have q := consq hc h
  exact unparts (wk q (.code Len.yN Len.yB 1 (some .int))) (wks q (.initialized Len.yN.cls :: Len.site))
theorem movedLen {Z s : State} {a0 args : Array Value} (hZ : Z.Warmed39 s.vm) (hw : ∀ d ∈ wordsLen, d.before a0 Z = true) : ∀ d ∈ wordsLen, d.before args s = true := fun d hd => by
  have q := hw d hd
  have t : ∀ d ∈ wordsLen, d = .arrayClass .byte ∨ (d.onTables && d.keepsFace) = true := by decide +kernel
  rcases t d hd with rfl | t
  · exact RoadKit.mvA hZ q
  · exact RoadKit.mv hZ q t
/-- the bytes of the chars cs, low before high -/
def wideBytes : List Int32 → List Value
  | [] => []
  | c :: cs => .int (lo8 c) :: .int (hi8 c) :: wideBytes cs
theorem wide_lo (d : Value) : ∀ (cs : List Int32) (j : Nat), j < cs.length → (wideBytes cs).getD (2 * j) d = .int (lo8 (cs.getD j 0))
  | [], j, h => absurd h (Nat.not_lt_zero j)
  | c :: cs, 0, _ => rfl
  | c :: cs, j + 1, h => by
    have q := wide_lo d cs j (by simpa using h)
    rw [show 2 * (j + 1) = 2 * j + 1 + 1 from by omega]
    simpa [wideBytes] using q
theorem wide_hi (d : Value) : ∀ (cs : List Int32) (j : Nat), j < cs.length → (wideBytes cs).getD (2 * j + 1) d = .int (hi8 (cs.getD j 0))
  | [], j, h => absurd h (Nat.not_lt_zero j)
  | c :: cs, 0, _ => rfl
  | c :: cs, j + 1, h => by
    have q := wide_hi d cs j (by simpa using h)
    rw [show 2 * (j + 1) + 1 = 2 * j + 1 + 1 + 1 from by omega]
    simpa [wideBytes] using q
theorem low_at (d : Value) (cs : List Int32) (j : Nat) (h : j < cs.length) : (cs.map fun c => Value.int (lo8 c)).getD j d = .int (lo8 (cs.getD j 0)) := by
  simp [List.getD_eq_getElem?_getD, h]
/-- an array of N2 bytes vs codes the chars cs by the coder cd -/
def CodA (cs : List Int32) (cd N2 : Int32) (vs : List Value) : Prop := (cd = 0 ∧ N2 = Int32.ofNat cs.length ∧ vs = (cs.map fun c => Value.int (lo8 c)) ∧ ∀ c ∈ cs, ¬ 255 < c) ∨ (cd = 1 ∧ N2 = Int32.ofNat (2 * cs.length) ∧ vs = wideBytes cs ∧ ∃ c ∈ cs, 255 < c)
theorem CodA.cod {cs : List Int32} {cd N2 : Int32} {vs : List Value} {V : Cell} (h : CodA cs cd N2 vs) (hn : 2 * cs.length < 2 ^ 31) (hs : V.slots.size = N2.toNatClampNeg) (hv : RoadKit.Has V vs (.int 0)) : Cod cd cs.length (fun j => cs.getD j 0) V := by
  rcases h with ⟨rfl, rfl, rfl, h⟩ | ⟨rfl, rfl, rfl, c, hc, hw⟩
  · rw [n32 (by omega)] at hs
    exact Or.inl ⟨rfl, hs, fun j hj => ⟨by rw [hv j (by omega), low_at _ _ _ hj], by
      have e : cs.getD j 0 = cs[j] := by simp [List.getD_eq_getElem?_getD, hj]
      show ¬ 255 < cs.getD j 0
      rw [e]; exact h _ (List.getElem_mem _)⟩⟩
  · rw [n32 (by omega)] at hs
    obtain ⟨j, hj, rfl⟩ := List.getElem_of_mem hc
    exact Or.inr ⟨rfl, hs, fun j hj => ⟨by rw [hv _ (by omega), wide_lo _ _ _ hj], by rw [hv _ (by omega), wide_hi _ _ _ hj]⟩, j, hj, by
      have e : cs.getD j 0 = cs[j] := by simp [List.getD_eq_getElem?_getD, hj]
      show 255 < cs.getD j 0
      rw [e]; exact hw⟩
/-- an object of exactly java/lang/String, its two fields found: as the laws ask it -/
theorem strObj {Z U : State} {a0 : Array Value} {kI : Nat} (wi : (Jvm.Cond.instantiable ST kI).before a0 Z = true) (al : Z.vm.Alike U.vm) {x : Addr} {v0 c0 : Value} (E : RoadKit.Exa Z U.heap x ST) (V : RoadKit.Fld Z U.heap x ST "value" "[B" v0) (C : RoadKit.Fld Z U.heap x ST "coder" "B" c0) :
    ∃ (D : Cell) (fV fC : Field), Blank ST x D U ∧ Found ST "value" "[B" fV U ∧ Found ST "coder" "B" fC U ∧ D.slots[fV.slot]? = some v0 ∧ D.slots[fC.slot]? = some c0 ∧ RoadKit.slotOf Z ST "value" "[B" = fV.slot ∧ RoadKit.slotOf Z ST "coder" "B" = fC.slot := by
  obtain ⟨D, cfV, kV, iV, fV, hD, gV, stV, knV, obV, asV, slV⟩ := V
  obtain ⟨D', cfC, kC, iC, fC, hD', gC, stC, -, -, asC, slC⟩ := C
  cases hD.symm.trans hD'
  obtain ⟨D2, kD, e1, e2, e3, e4, e5⟩ := E
  cases hD.symm.trans e1
  obtain ⟨c2, k2, i1, i2, i3, -⟩ := Cond.instantiable_spec wi
  cases e2.symm.trans i1
  cases e3.symm.trans i2
  obtain ⟨kU, u1, u2⟩ := al.2.2 _ _ e3
  exact ⟨D, fV, fC, ⟨hD, ⟨knV, fun q hq => by rw [hq] at obV; cases obV⟩, by rw [al.findClass]; exact e2, kU, u1, by rw [u2]; exact i3, by rw [u2]; exact e5 i3⟩, ⟨SBG.found_only al ⟨cfV, kV, iV, gV⟩, stV⟩, ⟨SBG.found_only al ⟨cfC, kC, iC, gC⟩, stC⟩, slV, slC, by simp [RoadKit.slotOf, gV], by simp [RoadKit.slotOf, gC]⟩
theorem sta_is {Z U : State} (al : Z.vm.Alike U.vm) {C n d : String} {v : Value} (S : RoadKit.Sta Z U.heap C n d v) : StaticIs U C n d v := by
  obtain ⟨cfS, iS, kS, fS, st, cS, t1, t2, t3, t4, t5, t6, t7⟩ := S
  exact StaticIs.there (s := { Z with heap := U.heap }) ⟨cfS, iS, kS, fS, st, cS, t1, t2, t3, t4, t5, (fun q => by rw [q] at t6; cases t6), t7⟩ al rfl
/-- **length() OF SUCH A STRING** -/
theorem lenW {p : Program} {l : Launch} {e : Env} {R : Room} {s : State} {args : Array Value} {below : List Frame} {len W : Nat} {Z : State} {a0 : Array Value} {h : Heap} (hZ : Z.Warmed39 s.vm) (hw : ∀ d ∈ wordsLen, d.before a0 Z = true) {kI : Nat} (wi : (Jvm.Cond.instantiable ST kI).before a0 Z = true)
    {x t : Addr} {kb : ClassId} {cs : List Int32} {cd N2 z : Int32} {vs : List Value} (E : RoadKit.Exa Z h x ST) (V : RoadKit.Fld Z h x ST "value" "[B" (.ref t)) (C : RoadKit.Fld Z h x ST "coder" "B" (.int cd)) (K : RoadKit.Arv Z h t kb .byte N2 vs (.int 0)) (hc : CodA cs cd N2 vs) (hb : ∀ c ∈ cs, ¬ c < 0 ∧ ¬ (65535 : Int32) < c)
    (S : RoadKit.Sta Z h ST "COMPACT_STRINGS" "Z" (.int z)) (hz : ¬ z = 0) (l2 : cs.length ≤ 4000) (hfr : 2 ≤ R.frames) (hlo : W + 25 ≤ R.locals) :
    Back l R p e below s args (⟨"java/lang/String", "length", "()I"⟩ : MethodName) len W (fun P a => a = #[.ref x] ∧ P.U.heap = h ∧ P.cells + 0 ≤ R.cells ∧ P.slots + 0 ≤ R.slots)
      (fun P _ v B => ∃ L, (v = some (.int (Int32.ofNat cs.length)) ∧ L = [] ∧ B.U.heap = h) ∧ B.locs = P.locs ++ L ∧ B.cells = P.cells + 0 ∧ B.slots = P.slots + 0) := by
  obtain ⟨A, K1, K2, K3, K4, K5, K6⟩ := K
  have hcod := hc.cod (by omega) K3 K5
  intro m meth c P g ig mk a X hg hsize hdg hW hn hp'
  obtain ⟨rfl, rfl, r1, r2⟩ := hp'
  have al : Z.vm.Alike P.U.vm := hZ.alike.trans X.warmed.alike
  obtain ⟨D, fV, fC, hB, F1, F2, g1, g2, -, -⟩ := strObj wi al E V C
  have hx : Txt x t A cd cs.length (fun j => cs.getD j 0) P.U := ⟨⟨_, hB.2.2.1, D, hB.1, rfl, by cases q : D.vm <;> first | rfl | exact absurd q (hB.2.1.2 _)⟩, Has.of hB F1 g1, Has.of hB F2 g2, ⟨K1.1, State.isArrayOf_alike al K1.2.1, K1.2.2, by rcases hcod with ⟨-, q, -⟩ | ⟨-, q, -⟩ <;> omega⟩, hcod, fun j hj => by
    have e : cs.getD j 0 = cs[j] := by simp [List.getD_eq_getElem?_getD, hj]
    show ¬ cs.getD j 0 < 0 ∧ ¬ 65535 < cs.getD j 0
    rw [e]; exact hb _ (List.getElem_mem _)⟩
  obtain ⟨v, B, X', ⟨⟨hv, hh⟩, hl, hk, hs⟩, st⟩ := Len.pays x t A cd cs.length (fun j => cs.getD j 0) z (tabLen_of (movedLen hZ hw)) hfr hlo m meth c P g ig mk _ X hg hsize hdg hW hn ⟨r1, r2, rfl, hx, sta_is al S, hz⟩
  exact ⟨v, B, X', ⟨[], ⟨hv, rfl, hh⟩, hl, hk, hs⟩, st⟩
end StrChars.Road
namespace StrChars
open Jvm Sem ClassFile Op Lib Jvm.Stand Jvm.Free.XT Jvm.Free.ALB Jvm.Free.JM Jvm.Free
open Jvm.Lib.Cold (StaticIs)
/-- what place i of a byte[]'s cell holds -/
def yv (A : Cell) (i : Nat) : Int32 := match A.slots[i]? with | some (.int x) => x | _ => 0
theorem yv_get {a : Addr} {A : Cell} {U : State} (h : XT.Arr .byte a A U) (ht : Typed .byte A) {i : Nat} (hi : i < A.slots.size) : A.slots[i]? = some (.int (yv A i)) := by
  have e := Array.getElem?_eq_getElem hi
  have f := ht i _ e
  unfold yv; rw [e]
  generalize A.slots[i] = v at f
  cases v <;> simp [fits] at f ⊢
/-- the two arrays are equal, place for place -/
def EqC (A B : Cell) : Prop := A.slots.size = B.slots.size ∧ ∀ i, i < A.slots.size → yv A i = yv B i
/-- a boolean that says whether p -/
def Says01 (q : Prop) (r : Option Value) (s u : State) : Prop := ∃ v : Int32, r = some (.int v) ∧ u.heap = s.heap ∧ ((v = 1 ∧ q) ∨ (v = 0 ∧ ¬ q))
theorem Says01.mv {q : Prop} : ∀ r (U U' V V' : State), U'.heap = U.heap → V.vm.Alike V'.vm → V'.heap = V.heap → Says01 q r U V → Says01 q r U' V' :=
  fun r U U' V V' h1 _ h2 ⟨v, a, b, c⟩ => ⟨v, a, by rw [h1, h2]; exact b, c⟩
namespace LEq
def yN : MethodName := ⟨"java/lang/StringLatin1", "equals", "([B[B)Z"⟩
abbrev yB : ByteArray := jdk_43_method_13_code
theorem d0 : decode yB 0 = .ok (.aload_n 0, 1) := by decide +kernel
theorem d1 : decode yB 1 = .ok (.arraylength, 1) := by decide +kernel
theorem d2 : decode yB 2 = .ok (.aload_n 1, 1) := by decide +kernel
theorem d3 : decode yB 3 = .ok (.arraylength, 1) := by decide +kernel
theorem d4 : decode yB 4 = .ok (.if_icmp (.ne) 30, 3) := by decide +kernel
theorem d7 : decode yB 7 = .ok (.iconst 0, 1) := by decide +kernel
theorem d8 : decode yB 8 = .ok (.istore_n 2, 1) := by decide +kernel
theorem d9 : decode yB 9 = .ok (.iload_n 2, 1) := by decide +kernel
theorem d10 : decode yB 10 = .ok (.aload_n 0, 1) := by decide +kernel
theorem d11 : decode yB 11 = .ok (.arraylength, 1) := by decide +kernel
theorem d12 : decode yB 12 = .ok (.if_icmp (.ge) 20, 3) := by decide +kernel
theorem d15 : decode yB 15 = .ok (.aload_n 0, 1) := by decide +kernel
theorem d16 : decode yB 16 = .ok (.iload_n 2, 1) := by decide +kernel
theorem d17 : decode yB 17 = .ok (.baload, 1) := by decide +kernel
theorem d18 : decode yB 18 = .ok (.aload_n 1, 1) := by decide +kernel
theorem d19 : decode yB 19 = .ok (.iload_n 2, 1) := by decide +kernel
theorem d20 : decode yB 20 = .ok (.baload, 1) := by decide +kernel
theorem d21 : decode yB 21 = .ok (.if_icmp (.eq) 5, 3) := by decide +kernel
theorem d24 : decode yB 24 = .ok (.iconst 0, 1) := by decide +kernel
theorem d25 : decode yB 25 = .ok (.ireturn, 1) := by decide +kernel
theorem d26 : decode yB 26 = .ok (.iinc 2 1, 3) := by decide +kernel
theorem d29 : decode yB 29 = .ok (.goto (-20), 3) := by decide +kernel
theorem d32 : decode yB 32 = .ok (.iconst 1, 1) := by decide +kernel
theorem d33 : decode yB 33 = .ok (.ireturn, 1) := by decide +kernel
theorem d34 : decode yB 34 = .ok (.iconst 0, 1) := by decide +kernel
theorem d35 : decode yB 35 = .ok (.ireturn, 1) := by decide +kernel
def site : List Cond := []
def tab : Cond := tabOf yN yB 3 (some .boolean) site
def P (a : Addr) (A : Cell) (b : Addr) (B : Cell) (args : Array Value) (s : State) : Prop := args = #[.ref a, .ref b] ∧ XT.Arr .byte a A s ∧ Typed .byte A ∧ XT.Arr .byte b B s ∧ Typed .byte B
/-- whether two byte[] are equal, place for place -/
theorem law (l : Launch) (a : Addr) (A : Cell) (b : Addr) (B : Cell) : Law l yN 2 2 0 0 yB 3 (some .boolean) site (P a A b B) (Says01 (EqC A B)) [] 0 0 := by
  refine Law.of_walk (plainFor_of_name (by decide +kernel)) (by decide +kernel) (by decide +kernel) (by decide) (fun _ _ h => by rw [h.1]; rfl) (fun _ U U' hal hh h => ⟨h.1, h.2.1.mv hal hh, h.2.2.1, h.2.2.2.1.mv hal hh, h.2.2.2.2⟩) (fun r U U' V V' h1 hal h2 h => Says01.mv r U U' V V' h1 hal h2 h) ?_
  intro p e s m args below meth c s₁ X0 hexec hbytes hml hret hlk hnm hown hh0 W hP
  obtain ⟨rfl, hA, tA, hB, tB⟩ := hP
  have a31 := hA.2.2.2
  have b31 := hB.2.2.2
  have hA0 := hA.mv X0.warmed.alike hh0
  have hB0 := hB.mv X0.warmed.alike hh0
  have c1 : Steps p.tables e below (s₁.setTop (entryFrame m #[.ref a, .ref b] 3)) (s₁.setTop (mkF m 0 #[.val (.ref a), .val (.ref b), .unset] [])) := entry rfl
  have c2 : Steps p.tables e below (s₁.setTop (entryFrame m #[.ref a, .ref b] 3)) (s₁.setTop (mkF m 4 #[.val (.ref a), .val (.ref b), .unset] [.int (Int32.ofNat B.slots.size), .int (Int32.ofNat A.slots.size)])) := c1.trans (by
    refine XS.aloadN X0.here hexec rfl (hb hbytes d0) rfl rfl ?_
    refine X0.alen hexec hA0 rfl rfl (hb hbytes d1) ?_
    refine XS.aloadN X0.here hexec rfl (hb hbytes d2) rfl rfl ?_
    refine X0.alen hexec hB0 rfl rfl (hb hbytes d3) ?_
    exact Steps.refl _)
  by_cases hs : A.slots.size = B.slots.size
  · have c3 : Steps p.tables e below (s₁.setTop (entryFrame m #[.ref a, .ref b] 3)) (s₁.setTop (mkF m 9 #[.val (.ref a), .val (.ref b), .val (.int 0)] [])) := c2.trans (by
      refine XS.icmpNo X0.here hexec rfl (hb hbytes d4) rfl (ii_ne_f (by rw [hs])) ?_
      refine iconstV X0.here hexec rfl 0 (hb hbytes d7) (by decide) ?_
      refine XS.istoreN X0.here hexec rfl (hb hbytes d8) rfl rfl ?_
      exact Steps.refl _)
    have loop : ∀ (r i : Nat), i + r = A.slots.size → (∀ j, j < i → yv A j = yv B j) → Steps p.tables e below (s₁.setTop (entryFrame m #[.ref a, .ref b] 3)) (s₁.setTop (mkF m 9 #[.val (.ref a), .val (.ref b), .val (.int (Int32.ofNat i))] [])) → ∃ (pc : Nat) (Ls : Array Slot) (v : Int32), (pc = 25 ∨ pc = 33) ∧ ((v = 1 ∧ EqC A B) ∨ (v = 0 ∧ ¬ EqC A B)) ∧ Steps p.tables e below (s₁.setTop (entryFrame m #[.ref a, .ref b] 3)) (s₁.setTop (mkF m pc Ls [.int v])) := by
      intro r
      induction r with
      | zero =>
        intro i hi he cl
        exact ⟨33, _, 1, Or.inr rfl, Or.inl ⟨rfl, hs, fun j hj => he j (by omega)⟩, cl.trans (by
          refine XS.iloadN X0.here hexec rfl (hb hbytes d9) rfl ?_
          refine XS.aloadN X0.here hexec rfl (hb hbytes d10) rfl rfl ?_
          refine X0.alen hexec hA0 rfl rfl (hb hbytes d11) ?_
          refine XS.icmpYes X0.here hexec rfl (pc0 := 12) rfl (hb hbytes d12) rfl (ii_ge_t (nlt32 (by omega) (by omega))) (by decide) rfl ?_
          refine iconstV X0.here hexec rfl 1 (hb hbytes d32) (by decide) ?_
          exact Steps.refl _)⟩
      | succ r ih =>
        intro i hi he cl
        have c4 : Steps p.tables e below (s₁.setTop (entryFrame m #[.ref a, .ref b] 3)) (s₁.setTop (mkF m 21 #[.val (.ref a), .val (.ref b), .val (.int (Int32.ofNat i))] [.int (yv B i), .int (yv A i)])) := cl.trans (by
          refine XS.iloadN X0.here hexec rfl (hb hbytes d9) rfl ?_
          refine XS.aloadN X0.here hexec rfl (hb hbytes d10) rfl rfl ?_
          refine X0.alen hexec hA0 rfl rfl (hb hbytes d11) ?_
          refine XS.icmpNo X0.here hexec rfl (hb hbytes d12) rfl (ii_ge_f (lt32 (by omega) (by omega))) ?_
          refine XS.aloadN X0.here hexec rfl (hb hbytes d15) rfl rfl ?_
          refine XS.iloadN X0.here hexec rfl (hb hbytes d16) rfl ?_
          refine X0.aget hexec hA0 rfl (yv_get hA tA (i := i) (by omega)) rfl rfl (hb hbytes d17) ?_
          refine XS.aloadN X0.here hexec rfl (hb hbytes d18) rfl rfl ?_
          refine XS.iloadN X0.here hexec rfl (hb hbytes d19) rfl ?_
          refine X0.aget hexec hB0 rfl (yv_get hB tB (i := i) (by omega)) rfl rfl (hb hbytes d20) ?_
          exact Steps.refl _)
        by_cases hv : yv A i = yv B i
        · have c5 : Steps p.tables e below (s₁.setTop (entryFrame m #[.ref a, .ref b] 3)) (s₁.setTop (mkF m 9 #[.val (.ref a), .val (.ref b), .val (.int (Int32.ofNat i + 1))] [])) := c4.trans (by
            refine XS.icmpYes X0.here hexec rfl (pc0 := 21) rfl (hb hbytes d21) rfl (ii_eq_t hv) (by decide) rfl ?_
            refine iincV X0.here hexec rfl 1 (hb hbytes d26) (by decide) rfl rfl ?_
            refine XS.goto X0.here hexec rfl (pc0 := 29) rfl (hb hbytes d29) (by decide) rfl ?_
            exact Steps.refl _)
          rw [succ32] at c5
          exact ih (i + 1) (by omega) (fun j hj => by
            by_cases e : j = i
            · rw [e]; exact hv
            · exact he j (by omega)) c5
        · exact ⟨25, _, 0, Or.inl rfl, Or.inr ⟨rfl, fun q => hv (q.2 i (by omega))⟩, c4.trans (by
            refine XS.icmpNo X0.here hexec rfl (hb hbytes d21) rfl (ii_eq_f hv) ?_
            refine iconstV X0.here hexec rfl 0 (hb hbytes d24) (by decide) ?_
            exact Steps.refl _)⟩
    obtain ⟨pc, Ls, v, hpc, hv, cz⟩ := loop A.slots.size 0 (by omega) (fun j hj => absurd hj (Nat.not_lt_zero j)) c3
    have nv : narrow .boolean (.int v) = .int v := by rcases hv with ⟨rfl, -⟩ | ⟨rfl, -⟩ <;> rfl
    rcases hpc with rfl | rfl
    · exact ⟨s₁, some (.int v), _, _, _, X0, rfl, rfl, rfl, (fun h => by cases h), ⟨v, rfl, hh0, hv⟩, fun fs hl => cz.trans (X0.ireturnOut hexec hret nv (Or.inr (Or.inl rfl)) (hb hbytes d25) hl)⟩
    · exact ⟨s₁, some (.int v), _, _, _, X0, rfl, rfl, rfl, (fun h => by cases h), ⟨v, rfl, hh0, hv⟩, fun fs hl => cz.trans (X0.ireturnOut hexec hret nv (Or.inr (Or.inl rfl)) (hb hbytes d33) hl)⟩
  · have c3 : Steps p.tables e below (s₁.setTop (entryFrame m #[.ref a, .ref b] 3)) (s₁.setTop (mkF m 35 #[.val (.ref a), .val (.ref b), .unset] [.int 0])) := c2.trans (by
      refine XS.icmpYes X0.here hexec rfl (pc0 := 4) rfl (hb hbytes d4) rfl (ii_ne_t (ne32 a31 b31 hs)) (by decide) rfl ?_
      refine iconstV X0.here hexec rfl 0 (hb hbytes d34) (by decide) ?_
      exact Steps.refl _)
    exact ⟨s₁, some (.int 0), _, _, _, X0, rfl, rfl, rfl, (fun h => by cases h), ⟨0, rfl, hh0, Or.inr ⟨rfl, fun q => hs q.1⟩⟩, fun fs hl => c3.trans (X0.ireturnOut hexec hret rfl (Or.inr (Or.inl rfl)) (hb hbytes d35) hl)⟩
end LEq
theorem Cod.ty {cd : Int32} {n : Nat} {f : Nat → Int32} {V : Cell} (h : Cod cd n f V) : Typed .byte V := fun i v hv => by
  have hi : i < V.slots.size := (Array.getElem?_eq_some_iff.mp hv).1
  rcases h with ⟨-, k1, k2⟩ | ⟨-, k1, k2, -⟩
  · rw [(k2 i (by omega)).1] at hv; cases hv; exact fits_lo8 _
  · rcases Nat.mod_two_eq_zero_or_one i with e | e
    · obtain ⟨j, rfl⟩ : ∃ j, i = 2 * j := ⟨i / 2, by omega⟩
      rw [(k2 j (by omega)).1] at hv; cases hv; exact fits_lo8 _
    · obtain ⟨j, rfl⟩ : ∃ j, i = 2 * j + 1 := ⟨i / 2, by omega⟩
      rw [(k2 j (by omega)).2] at hv; cases hv; exact fits_lo8 _
/-- the same text -/
def SameT (n : Nat) (f : Nat → Int32) (k : Nat) (g : Nat → Int32) : Prop := n = k ∧ ∀ j, j < n → f j = g j
theorem lo8_inj {x y : Int32} (h0 : ¬ x < 0) (h1 : ¬ 255 < x) (k0 : ¬ y < 0) (k1 : ¬ 255 < y) (h : lo8 x = lo8 y) : x = y := by
  rw [← lo8_mask h0 h1, ← lo8_mask k0 k1, h]
/-- arrays coded by one coder are equal just where the texts are -/
theorem Cod.eqv {cd : Int32} {n k : Nat} {f g : Nat → Int32} {V V' : Cell} (h : Cod cd n f V) (h' : Cod cd k g V') (hf : ∀ j, j < n → ¬ f j < 0 ∧ ¬ 65535 < f j) (hg : ∀ j, j < k → ¬ g j < 0 ∧ ¬ 65535 < g j) : EqC V V' ↔ SameT n f k g := by
  have yvv : ∀ {W : Cell} {i : Nat} {x : Int32}, W.slots[i]? = some (.int x) → yv W i = x := fun q => by unfold yv; rw [q]
  rcases h with ⟨rfl, k1, k2⟩ | ⟨rfl, k1, k2, -⟩
  · rcases h' with ⟨-, m1, m2⟩ | ⟨e, -⟩
    · constructor
      · rintro ⟨e1, e2⟩
        refine ⟨by omega, fun j hj => ?_⟩
        have q := e2 j (by omega)
        rw [yvv (k2 j hj).1, yvv (m2 j (by omega)).1] at q
        exact lo8_inj (hf j hj).1 (k2 j hj).2 (hg j (by omega)).1 (m2 j (by omega)).2 q
      · rintro ⟨rfl, e2⟩
        refine ⟨by omega, fun j hj => ?_⟩
        rw [yvv (k2 j (by omega)).1, yvv (m2 j (by omega)).1, e2 j (by omega)]
    · exact absurd e (by decide)
  · rcases h' with ⟨e, -⟩ | ⟨-, m1, m2, -⟩
    · exact absurd e (by decide)
    · constructor
      · rintro ⟨e1, e2⟩
        refine ⟨by omega, fun j hj => ?_⟩
        have q1 := e2 (2 * j) (by omega)
        have q2 := e2 (2 * j + 1) (by omega)
        rw [yvv (k2 j hj).1, yvv (m2 j (by omega)).1] at q1
        rw [yvv (k2 j hj).2, yvv (m2 j (by omega)).2] at q2
        rw [← pair_says (hf j hj).1 (hf j hj).2, ← pair_says (hg j (by omega)).1 (hg j (by omega)).2, q1, q2]
      · rintro ⟨rfl, e2⟩
        refine ⟨by omega, fun i hi => ?_⟩
        rcases Nat.mod_two_eq_zero_or_one i with e | e
        · obtain ⟨j, rfl⟩ : ∃ j, i = 2 * j := ⟨i / 2, by omega⟩
          rw [yvv (k2 j (by omega)).1, yvv (m2 j (by omega)).1, e2 j (by omega)]
        · obtain ⟨j, rfl⟩ : ∃ j, i = 2 * j + 1 := ⟨i / 2, by omega⟩
          rw [yvv (k2 j (by omega)).2, yvv (m2 j (by omega)).2, e2 j (by omega)]
/-- two codings differ: so do the texts -/
theorem Cod.dif {cd cd' : Int32} {n k : Nat} {f g : Nat → Int32} {V V' : Cell} (h : Cod cd n f V) (h' : Cod cd' k g V') (hne : ¬ cd = cd') : ¬ SameT n f k g := by
  rintro ⟨rfl, e⟩
  rcases h with ⟨rfl, -, k2⟩ | ⟨rfl, -, -, j, hj, hw⟩
  · rcases h' with ⟨rfl, -⟩ | ⟨-, -, -, j, hj, hw⟩
    · exact hne rfl
    · exact (k2 j hj).2 (by rw [e j hj]; exact hw)
  · rcases h' with ⟨-, -, m2⟩ | ⟨rfl, -⟩
    · exact (m2 j hj).2 (by rw [← e j hj]; exact hw)
    · exact hne rfl
/-- an object of exactly C is an instance of C -/
theorem cinst {p : Program} {l : Launch} {e : Env} {R : Room} {s : State} {m : MethodId} {args : Array Value} {below : List Frame} {meth : Method} {c : Code} {T : State} {locs : List Loc} {cells slots : Nat} (X : Stand p l e R s m args below meth c T locs cells slots) (hexec : p.tables.exec = Jvm.exec) {own C : String} {index : Nat} (hown : s.vm.findClass own = some m.cls) (hlink : (Cond.classLink own index C).before args s = true) {a : Addr} (hE : Exact C a T)
    {g : JFrame} (hg : g.method = m) {rest : List Value} (hstack : g.stack = .ref a :: rest) (hdg : decode c.code g.pc = .ok (.instanceof index, 3)) :
    ∃ T', Stand p l e R s m args below meth c T' locs cells slots ∧ T'.heap = T.heap ∧ ∀ target, Steps p.tables e below (T'.setTop { g with pc := g.pc + 3, stack := .int 1 :: rest }) target → Steps p.tables e below (T.setTop g) target := by
  obtain ⟨cB, h1, D, h2, h3, h4⟩ := hE
  have h1' : s.vm.findClass C = some cB := by rw [← X.warmed.alike.findClass]; exact h1
  obtain ⟨vm', X', st⟩ := X.instanceofYes hexec hown hlink h2 h4 h1' (by rw [h3]; exact Jvm.Free.SB.assignable_self _ _) hg hstack hdg
  exact ⟨_, X', rfl, st⟩
theorem cself {p : Program} {l : Launch} {e : Env} {R : Room} {s : State} {m : MethodId} {args : Array Value} {below : List Frame} {meth : Method} {c : Code} {T : State} {locs : List Loc} {cells slots : Nat} (X : Stand p l e R s m args below meth c T locs cells slots) (hexec : p.tables.exec = Jvm.exec) {own C : String} {index : Nat} (hown : s.vm.findClass own = some m.cls) (hlink : (Cond.classLink own index C).before args s = true) {a : Addr} (hE : Exact C a T)
    {g : JFrame} (hg : g.method = m) {rest : List Value} (hstack : g.stack = .ref a :: rest) (hdg : decode c.code g.pc = .ok (.checkcast index, 3)) :
    ∃ T', Stand p l e R s m args below meth c T' locs cells slots ∧ T'.heap = T.heap ∧ ∀ target, Steps p.tables e below (T'.setTop { g with pc := g.pc + 3, stack := .ref a :: rest }) target → Steps p.tables e below (T.setTop g) target := by
  obtain ⟨cB, h1, D, h2, h3, h4⟩ := hE
  have h1' : s.vm.findClass C = some cB := by rw [← X.warmed.alike.findClass]; exact h1
  obtain ⟨vm', X', st⟩ := X.checkcastYes hexec hown hlink h2 h4 h1' (by rw [h3]; exact Jvm.Free.SB.assignable_self _ _) hg hstack hdg
  exact ⟨_, X', rfl, fun t h => st t (by rw [← hstack] at h; exact h)⟩
namespace SEq
def yN : MethodName := ⟨"java/lang/String", "equals", "(Ljava/lang/Object;)Z"⟩
abbrev yB : ByteArray := jdk_42_method_66_code
theorem d0 : decode yB 0 = .ok (.aload_n 0, 1) := by decide +kernel
theorem d1 : decode yB 1 = .ok (.aload_n 1, 1) := by decide +kernel
theorem d2 : decode yB 2 = .ok (.if_acmp (.ne) 5, 3) := by decide +kernel
theorem d5 : decode yB 5 = .ok (.iconst 1, 1) := by decide +kernel
theorem d6 : decode yB 6 = .ok (.ireturn, 1) := by decide +kernel
theorem d7 : decode yB 7 = .ok (.aload_n 1, 1) := by decide +kernel
theorem d8 : decode yB 8 = .ok (.instanceof 10, 3) := by decide +kernel
theorem d11 : decode yB 11 = .ok (.ifCond (.eq) 43, 3) := by decide +kernel
theorem d14 : decode yB 14 = .ok (.aload_n 1, 1) := by decide +kernel
theorem d15 : decode yB 15 = .ok (.checkcast 10, 3) := by decide +kernel
theorem d18 : decode yB 18 = .ok (.astore_n 2, 1) := by decide +kernel
theorem d19 : decode yB 19 = .ok (.getstatic 38, 3) := by decide +kernel
theorem d22 : decode yB 22 = .ok (.ifCond (.eq) 14, 3) := by decide +kernel
theorem d25 : decode yB 25 = .ok (.aload_n 0, 1) := by decide +kernel
theorem d26 : decode yB 26 = .ok (.getfield 15, 3) := by decide +kernel
theorem d29 : decode yB 29 = .ok (.aload_n 2, 1) := by decide +kernel
theorem d30 : decode yB 30 = .ok (.getfield 15, 3) := by decide +kernel
theorem d33 : decode yB 33 = .ok (.if_icmp (.ne) 21, 3) := by decide +kernel
theorem d36 : decode yB 36 = .ok (.aload_n 0, 1) := by decide +kernel
theorem d37 : decode yB 37 = .ok (.getfield 9, 3) := by decide +kernel
theorem d40 : decode yB 40 = .ok (.aload_n 2, 1) := by decide +kernel
theorem d41 : decode yB 41 = .ok (.getfield 9, 3) := by decide +kernel
theorem d44 : decode yB 44 = .ok (.invokestatic 541, 3) := by decide +kernel
theorem d47 : decode yB 47 = .ok (.ifCond (.eq) 7, 3) := by decide +kernel
theorem d50 : decode yB 50 = .ok (.iconst 1, 1) := by decide +kernel
theorem d51 : decode yB 51 = .ok (.goto 4, 3) := by decide +kernel
theorem d54 : decode yB 54 = .ok (.iconst 0, 1) := by decide +kernel
theorem d55 : decode yB 55 = .ok (.ireturn, 1) := by decide +kernel
def site : List Cond := [.classLink "java/lang/String" 10 "java/lang/String", .fieldLink "java/lang/String" 38 "java/lang/String" "COMPACT_STRINGS" "Z", .fieldLink "java/lang/String" 15 "java/lang/String" "coder" "B", .fieldLink "java/lang/String" 9 "java/lang/String" "value" "[B", LEq.tab] ++ staticW "java/lang/String" 541 LEq.yN
def tab : Cond := tabOf yN yB 3 (some .boolean) site
def P (x t : Addr) (V : Cell) (cd : Int32) (n : Nat) (f : Nat → Int32) (y t' : Addr) (V' : Cell) (cd' : Int32) (k : Nat) (g : Nat → Int32) (z : Int32) (args : Array Value) (s : State) : Prop := args = #[.ref x, .ref y] ∧ Txt x t V cd n f s ∧ Txt y t' V' cd' k g s ∧ StaticIs s "java/lang/String" "COMPACT_STRINGS" "Z" (.int z) ∧ ¬ z = 0
/-- equals(Object) of two Strings: whether the texts are the same -/
theorem law (l : Launch) (x t : Addr) (V : Cell) (cd : Int32) (n : Nat) (f : Nat → Int32) (y t' : Addr) (V' : Cell) (cd' : Int32) (k : Nat) (g : Nat → Int32) (z : Int32) : Law l yN 2 1 1 14 yB 3 (some .boolean) site (P x t V cd n f y t' V' cd' k g z) (Says01 (SameT n f k g)) [] 0 0 := by
  refine Law.of_walk (plainFor_of_name (by decide +kernel)) (by decide +kernel) (by decide +kernel) (by decide) (fun _ _ h => by rw [h.1]; rfl) (fun _ U U' hal hh h => ⟨h.1, h.2.1.mv hal hh, h.2.2.1.mv hal hh, h.2.2.2.1.there hal hh, h.2.2.2.2⟩) (fun r U U' V V' h1 hal h2 h => Says01.mv r U U' V V' h1 hal h2 h) ?_
  intro p e s m args below meth c s₁ X0 hexec hbytes hml hret hlk hnm hown hh0 W hP
  obtain ⟨rfl, hx, hy, s1, hz⟩ := hP
  have c1 : Steps p.tables e below (s₁.setTop (entryFrame m #[.ref x, .ref y] 3)) (s₁.setTop (mkF m 2 #[.val (.ref x), .val (.ref y), .unset] [.ref y, .ref x])) := Steps.trans (entry rfl) (by
    show Steps p.tables e below (s₁.setTop (mkF m 0 #[.val (.ref x), .val (.ref y), .unset] [])) _
    refine XS.aloadN X0.here hexec rfl (hb hbytes d0) rfl rfl ?_
    refine XS.aloadN X0.here hexec rfl (hb hbytes d1) rfl rfl ?_
    exact Steps.refl _)
  by_cases hxy : x = y
  · have c2 : Steps p.tables e below (s₁.setTop (entryFrame m #[.ref x, .ref y] 3)) (s₁.setTop (mkF m 6 #[.val (.ref x), .val (.ref y), .unset] [.int 1])) := c1.trans (by
      refine acmpNo X0.here hexec rfl (hb hbytes d2) rfl rfl rfl (by simp [acmp, hxy]) ?_
      refine iconstV X0.here hexec rfl 1 (hb hbytes d5) (by decide) ?_
      exact Steps.refl _)
    subst hxy
    have ec : cd = cd' := by
      obtain ⟨D, fd, a1, a2, a3⟩ := hx.2.2.1
      obtain ⟨D', fd', b1, b2, b3⟩ := hy.2.2.1
      cases a1.symm.trans b1
      obtain ⟨q1, q2, q3, q4⟩ := a2.1
      obtain ⟨r1, r2, r3, r4⟩ := b2.1
      cases q4.symm.trans r4
      cases a3.symm.trans b3; rfl
    have et : t = t' := by
      obtain ⟨D, fd, a1, a2, a3⟩ := hx.2.1
      obtain ⟨D', fd', b1, b2, b3⟩ := hy.2.1
      cases a1.symm.trans b1
      obtain ⟨q1, q2, q3, q4⟩ := a2.1
      obtain ⟨r1, r2, r3, r4⟩ := b2.1
      cases q4.symm.trans r4
      cases a3.symm.trans b3; rfl
    subst ec et
    have ev : V = V' := by cases hx.2.2.2.1.1.symm.trans hy.2.2.2.1.1; rfl
    subst ev
    have hs : SameT n f k g := (Cod.eqv hx.2.2.2.2.1 hy.2.2.2.2.1 hx.2.2.2.2.2 hy.2.2.2.2.2).mp ⟨rfl, fun _ _ => rfl⟩
    exact ⟨s₁, some (.int 1), _, _, _, X0, rfl, rfl, rfl, (fun h => by cases h), ⟨1, rfl, hh0, Or.inl ⟨rfl, hs⟩⟩, fun fs hl => c2.trans (X0.ireturnOut hexec hret rfl (Or.inr (Or.inl rfl)) (hb hbytes d6) hl)⟩
  · have c2 : Steps p.tables e below (s₁.setTop (entryFrame m #[.ref x, .ref y] 3)) (s₁.setTop (mkF m 8 #[.val (.ref x), .val (.ref y), .unset] [.ref y])) := c1.trans (by
      refine acmpYes X0.here hexec rfl (pc0 := 2) rfl (hb hbytes d2) rfl rfl rfl (by simp [acmp, hxy]) (by decide) rfl ?_
      refine XS.aloadN X0.here hexec rfl (hb hbytes d7) rfl rfl ?_
      exact Steps.refl _)
    obtain ⟨T3, X3, q3, st3⟩ := cinst X0 hexec hown (wk W (.classLink "java/lang/String" 10 "java/lang/String")) (hy.mv X0.warmed.alike hh0).1 (g := (mkF m 8 #[.val (.ref x), .val (.ref y), .unset] [.ref y])) rfl (rest := []) rfl (hb hbytes d8)
    have hh3 := q3.trans hh0
    have c4 : Steps p.tables e below (s₁.setTop (entryFrame m #[.ref x, .ref y] 3)) (T3.setTop (mkF m 15 #[.val (.ref x), .val (.ref y), .unset] [.ref y])) := (c2.trans (st3 _ (Steps.refl _))).trans (by
      refine XS.ifNo X3.here hexec rfl (hb hbytes d11) rfl (i0_eq_f (by decide)) ?_
      refine XS.aloadN X3.here hexec rfl (hb hbytes d14) rfl rfl ?_
      exact Steps.refl _)
    obtain ⟨T5, X5, q5, st5⟩ := cself X3 hexec hown (wk W (.classLink "java/lang/String" 10 "java/lang/String")) (hy.mv X3.warmed.alike hh3).1 (g := (mkF m 15 #[.val (.ref x), .val (.ref y), .unset] [.ref y])) rfl (rest := []) rfl (hb hbytes d15)
    have hh5 := q5.trans hh3
    have c6 : Steps p.tables e below (s₁.setTop (entryFrame m #[.ref x, .ref y] 3)) (T5.setTop (mkF m 19 #[.val (.ref x), .val (.ref y), .val (.ref y)] [])) := (c4.trans (st5 _ (Steps.refl _))).trans (by
      refine XS.astoreN X5.here hexec rfl (hb hbytes d18) rfl rfl rfl ?_
      exact Steps.refl _)
    obtain ⟨T7, X7, q7, st7⟩ := X5.sget hexec hown (wk W (.fieldLink "java/lang/String" 38 "java/lang/String" "COMPACT_STRINGS" "Z")) s1 (fun _ _ h => by rw [hh5]; exact h) (g := (mkF m 19 #[.val (.ref x), .val (.ref y), .val (.ref y)] [])) rfl (hb hbytes d19)
    have hh7 := q7.trans hh5
    have c8 : Steps p.tables e below (s₁.setTop (entryFrame m #[.ref x, .ref y] 3)) (T7.setTop (mkF m 26 #[.val (.ref x), .val (.ref y), .val (.ref y)] [.ref x])) := (c6.trans (st7 _ (Steps.refl _))).trans (by
      refine XS.ifNo X7.here hexec rfl (hb hbytes d22) rfl (i0_eq_f hz) ?_
      refine XS.aloadN X7.here hexec rfl (hb hbytes d25) rfl rfl ?_
      exact Steps.refl _)
    obtain ⟨T9, X9, q9, st9⟩ := X7.hget hexec hown (wk W (.fieldLink "java/lang/String" 15 "java/lang/String" "coder" "B")) (hx.mv X7.warmed.alike hh7).2.2.1 (g := (mkF m 26 #[.val (.ref x), .val (.ref y), .val (.ref y)] [.ref x])) rfl (rest := []) rfl (hb hbytes d26)
    have hh9 := q9.trans hh7
    have c10 : Steps p.tables e below (s₁.setTop (entryFrame m #[.ref x, .ref y] 3)) (T9.setTop (mkF m 30 #[.val (.ref x), .val (.ref y), .val (.ref y)] [.ref y, .int cd])) := (c8.trans (st9 _ (Steps.refl _))).trans (by
      refine XS.aloadN X9.here hexec rfl (hb hbytes d29) rfl rfl ?_
      exact Steps.refl _)
    obtain ⟨T11, X11, q11, st11⟩ := X9.hget hexec hown (wk W (.fieldLink "java/lang/String" 15 "java/lang/String" "coder" "B")) (hy.mv X9.warmed.alike hh9).2.2.1 (g := (mkF m 30 #[.val (.ref x), .val (.ref y), .val (.ref y)] [.ref y, .int cd])) rfl (rest := [.int cd]) rfl (hb hbytes d30)
    have hh11 := q11.trans hh9
    have c12 : Steps p.tables e below (s₁.setTop (entryFrame m #[.ref x, .ref y] 3)) (T11.setTop (mkF m 33 #[.val (.ref x), .val (.ref y), .val (.ref y)] [.int cd', .int cd])) := c10.trans (st11 _ (Steps.refl _))
    by_cases hcd : cd = cd'
    · subst hcd
      have c13 : Steps p.tables e below (s₁.setTop (entryFrame m #[.ref x, .ref y] 3)) (T11.setTop (mkF m 37 #[.val (.ref x), .val (.ref y), .val (.ref y)] [.ref x])) := c12.trans (by
        refine XS.icmpNo X11.here hexec rfl (hb hbytes d33) rfl (ii_ne_f rfl) ?_
        refine XS.aloadN X11.here hexec rfl (hb hbytes d36) rfl rfl ?_
        exact Steps.refl _)
      obtain ⟨T14, X14, q14, st14⟩ := X11.hget hexec hown (wk W (.fieldLink "java/lang/String" 9 "java/lang/String" "value" "[B")) (hx.mv X11.warmed.alike hh11).2.1 (g := (mkF m 37 #[.val (.ref x), .val (.ref y), .val (.ref y)] [.ref x])) rfl (rest := []) rfl (hb hbytes d37)
      have hh14 := q14.trans hh11
      have c15 : Steps p.tables e below (s₁.setTop (entryFrame m #[.ref x, .ref y] 3)) (T14.setTop (mkF m 41 #[.val (.ref x), .val (.ref y), .val (.ref y)] [.ref y, .ref t])) := (c13.trans (st14 _ (Steps.refl _))).trans (by
        refine XS.aloadN X14.here hexec rfl (hb hbytes d40) rfl rfl ?_
        exact Steps.refl _)
      obtain ⟨T16, X16, q16, st16⟩ := X14.hget hexec hown (wk W (.fieldLink "java/lang/String" 9 "java/lang/String" "value" "[B")) (hy.mv X14.warmed.alike hh14).2.1 (g := (mkF m 41 #[.val (.ref x), .val (.ref y), .val (.ref y)] [.ref y, .ref t])) rfl (rest := [.ref t]) rfl (hb hbytes d41)
      have hh16 := q16.trans hh14
      have c17 : Steps p.tables e below (s₁.setTop (entryFrame m #[.ref x, .ref y] 3)) (T16.setTop (mkF m 44 #[.val (.ref x), .val (.ref y), .val (.ref y)] [.ref t', .ref t])) := c15.trans (st16 _ (Steps.refl _))
      obtain ⟨v18, T18, X18, E18, g18⟩ := X16.callS hexec (LEq.law l t V t' V') hown (wks W (staticW "java/lang/String" 541 LEq.yN)) (wk W LEq.tab) (W := 0) (Nat.le_of_ble_eq_true rfl) (Nat.le_of_ble_eq_true rfl) (Nat.le_refl _) (Nat.le_refl _) (g := (mkF m 44 #[.val (.ref x), .val (.ref y), .val (.ref y)] [.ref t', .ref t])) rfl (by rw [hml]; rfl) c17 (argsL := [.ref t, .ref t']) (rest := []) rfl rfl (by show 2 * 0 + 0 ≤ _; decide) (hb hbytes d44) (⟨rfl, hx.2.2.2.1.mv X16.warmed.alike hh16, hx.2.2.2.2.1.ty, hy.2.2.2.1.mv X16.warmed.alike hh16, hy.2.2.2.2.1.ty⟩)
      obtain ⟨v, rfl, q18, hv⟩ := E18
      have iff := Cod.eqv hx.2.2.2.2.1 hy.2.2.2.2.1 hx.2.2.2.2.2 hy.2.2.2.2.2
      rcases hv with ⟨rfl, he⟩ | ⟨rfl, he⟩
      · have c19 : Steps p.tables e below (s₁.setTop (entryFrame m #[.ref x, .ref y] 3)) (T18.setTop (mkF m 55 #[.val (.ref x), .val (.ref y), .val (.ref y)] [.int 1])) := Steps.trans g18 (by
          refine XS.ifNo X18.here hexec rfl (hb hbytes d47) rfl (i0_eq_f (by decide)) ?_
          refine iconstV X18.here hexec rfl 1 (hb hbytes d50) (by decide) ?_
          refine XS.goto X18.here hexec rfl (pc0 := 51) rfl (hb hbytes d51) (by decide) rfl ?_
          exact Steps.refl _)
        exact ⟨T18, some (.int 1), _, _, _, X18, rfl, rfl, rfl, (fun h => by cases h), ⟨1, rfl, q18.trans hh16, Or.inl ⟨rfl, iff.mp he⟩⟩, fun fs hl => c19.trans (X18.ireturnOut hexec hret rfl (Or.inr (Or.inl rfl)) (hb hbytes d55) hl)⟩
      · have c19 : Steps p.tables e below (s₁.setTop (entryFrame m #[.ref x, .ref y] 3)) (T18.setTop (mkF m 55 #[.val (.ref x), .val (.ref y), .val (.ref y)] [.int 0])) := Steps.trans g18 (by
          refine XS.ifYes X18.here hexec rfl (pc0 := 47) rfl (hb hbytes d47) rfl (i0_eq_t rfl) (by decide) rfl ?_
          refine iconstV X18.here hexec rfl 0 (hb hbytes d54) (by decide) ?_
          exact Steps.refl _)
        exact ⟨T18, some (.int 0), _, _, _, X18, rfl, rfl, rfl, (fun h => by cases h), ⟨0, rfl, q18.trans hh16, Or.inr ⟨rfl, fun q => he (iff.mpr q)⟩⟩, fun fs hl => c19.trans (X18.ireturnOut hexec hret rfl (Or.inr (Or.inl rfl)) (hb hbytes d55) hl)⟩
    · have c13 : Steps p.tables e below (s₁.setTop (entryFrame m #[.ref x, .ref y] 3)) (T11.setTop (mkF m 55 #[.val (.ref x), .val (.ref y), .val (.ref y)] [.int 0])) := c12.trans (by
        refine XS.icmpYes X11.here hexec rfl (pc0 := 33) rfl (hb hbytes d33) rfl (ii_ne_t hcd) (by decide) rfl ?_
        refine iconstV X11.here hexec rfl 0 (hb hbytes d54) (by decide) ?_
        exact Steps.refl _)
      exact ⟨T11, some (.int 0), _, _, _, X11, rfl, rfl, rfl, (fun h => by cases h), ⟨0, rfl, hh11, Or.inr ⟨rfl, Cod.dif hx.2.2.2.2.1 hy.2.2.2.2.1 hcd⟩⟩, fun fs hl => c13.trans (X11.ireturnOut hexec hret rfl (Or.inr (Or.inl rfl)) (hb hbytes d55) hl)⟩
theorem pays {l : Launch} {R : Room} {p : Program} {e : Env} {below : List Frame} {s : State} {sargs : Array Value} {len W : Nat} (x t : Addr) (V : Cell) (cd : Int32) (n : Nat) (f : Nat → Int32) (y t' : Addr) (V' : Cell) (cd' : Int32) (k : Nat) (g : Nat → Int32) (z : Int32) (htab : tab.before sargs s = true) (hfr : 2 ≤ R.frames) (hlo : W + 28 ≤ R.locals) :
    Back l R p e below s sargs yN len W (fun A₁ a₁ => A₁.cells + 0 ≤ R.cells ∧ A₁.slots + 0 ≤ R.slots ∧ P x t V cd n f y t' V' cd' k g z a₁ A₁.U) (fun A₁ _ v₁ B₁ => Says01 (SameT n f k g) v₁ A₁.U B₁.U ∧ B₁.locs = A₁.locs ++ [] ∧ B₁.cells = A₁.cells + 0 ∧ B₁.slots = A₁.slots + 0) :=
  (law l x t V cd n f y t' V' cd' k g z).pays htab hfr (by omega)
end SEq
end StrChars
namespace StrChars.Road
open Jvm Sem ClassFile Op Lib Jvm.Stand Jvm.Free Jvm.Free.XT
open Jvm.Lib.Cold (StaticIs)
/-- the words of String.equals(Object) -/
abbrev wordsEq : List Jvm.Cond := [.code SEq.yN SEq.yB 3 (some .boolean), .initialized ST, .classLink ST 10 ST, .fieldLink ST 38 ST "COMPACT_STRINGS" "Z", .fieldLink ST 15 ST "coder" "B", .fieldLink ST 9 ST "value" "[B", .methodLink ST 541 LEq.yN, .static LEq.yN, .code LEq.yN LEq.yB 3 (some .boolean), .initialized "java/lang/StringLatin1"]
theorem tabEq_of {a : Array Value} {s : State} (h : ∀ w ∈ wordsEq, w.before a s = true) : SEq.tab.before a s = true := by
  have hl : LEq.tab.before a s = true := unparts (wk h (.code LEq.yN LEq.yB 3 (some .boolean))) (wks h (.initialized LEq.yN.cls :: LEq.site))
  have q := consq hl h
  exact unparts (wk q (.code SEq.yN SEq.yB 3 (some .boolean))) (wks q (.initialized SEq.yN.cls :: SEq.site))
theorem movedEq {Z s : State} {a0 args : Array Value} (hZ : Z.Warmed39 s.vm) (hw : ∀ d ∈ wordsEq, d.before a0 Z = true) : ∀ d ∈ wordsEq, d.before args s = true := fun d hd => by
  have t : ∀ d ∈ wordsEq, (d.onTables && d.keepsFace) = true := by decide +kernel
  exact RoadKit.mv hZ (hw d hd) (t d hd)
/-- the road's facts of a String, as the laws ask it -/
theorem txt_of {Z U : State} {a0 : Array Value} {kI : Nat} (wi : (Jvm.Cond.instantiable ST kI).before a0 Z = true) (al : Z.vm.Alike U.vm) {x t : Addr} {kb : ClassId} {cs : List Int32} {cd N2 : Int32} {vs : List Value} (E : RoadKit.Exa Z U.heap x ST) (V : RoadKit.Fld Z U.heap x ST "value" "[B" (.ref t)) (C : RoadKit.Fld Z U.heap x ST "coder" "B" (.int cd)) (K : RoadKit.Arv Z U.heap t kb .byte N2 vs (.int 0)) (hc : CodA cs cd N2 vs) (hb : ∀ c ∈ cs, ¬ c < 0 ∧ ¬ (65535 : Int32) < c) (l2 : cs.length ≤ 4000) :
    ∃ A, Txt x t A cd cs.length (fun j => cs.getD j 0) U := by
  obtain ⟨A, K1, K2, K3, K4, K5, K6⟩ := K
  have hcod := hc.cod (by omega) K3 K5
  obtain ⟨D, fV, fC, hB, F1, F2, g1, g2, -, -⟩ := strObj wi al E V C
  exact ⟨A, ⟨_, hB.2.2.1, D, hB.1, rfl, by cases q : D.vm <;> first | rfl | exact absurd q (hB.2.1.2 _)⟩, Has.of hB F1 g1, Has.of hB F2 g2, ⟨K1.1, State.isArrayOf_alike al K1.2.1, K1.2.2, by rcases hcod with ⟨-, q, -⟩ | ⟨-, q, -⟩ <;> omega⟩, hcod, fun j hj => by
    have e : cs.getD j 0 = cs[j] := by simp [List.getD_eq_getElem?_getD, hj]
    show ¬ cs.getD j 0 < 0 ∧ ¬ 65535 < cs.getD j 0
    rw [e]; exact hb _ (List.getElem_mem _)⟩
theorem same_list (cs ds : List Int32) : SameT cs.length (fun j => cs.getD j 0) ds.length (fun j => ds.getD j 0) ↔ cs = ds := by
  constructor
  · rintro ⟨e, q⟩
    refine List.ext_getElem e fun j h1 h2 => ?_
    have := q j h1
    simpa [List.getD_eq_getElem?_getD, h1, h2] using this
  · rintro rfl
    exact ⟨rfl, fun _ _ => rfl⟩
/-- **equals(Object) OF TWO SUCH STRINGS**: 1 just where the chars are the same -/
theorem eqW {p : Program} {l : Launch} {e : Env} {R : Room} {s : State} {args : Array Value} {below : List Frame} {len W : Nat} {Z : State} {a0 : Array Value} {h : Heap} (hZ : Z.Warmed39 s.vm) (hw : ∀ d ∈ wordsEq, d.before a0 Z = true) {kI : Nat} (wi : (Jvm.Cond.instantiable ST kI).before a0 Z = true)
    {x t : Addr} {kb : ClassId} {cs : List Int32} {cd N2 : Int32} {vs : List Value} (E : RoadKit.Exa Z h x ST) (V : RoadKit.Fld Z h x ST "value" "[B" (.ref t)) (C : RoadKit.Fld Z h x ST "coder" "B" (.int cd)) (K : RoadKit.Arv Z h t kb .byte N2 vs (.int 0)) (hc : CodA cs cd N2 vs) (hb : ∀ c ∈ cs, ¬ c < 0 ∧ ¬ (65535 : Int32) < c) (l2 : cs.length ≤ 4000)
    {y t' : Addr} {kb' : ClassId} {ds : List Int32} {cd' N2' : Int32} {vs' : List Value} (E' : RoadKit.Exa Z h y ST) (V' : RoadKit.Fld Z h y ST "value" "[B" (.ref t')) (C' : RoadKit.Fld Z h y ST "coder" "B" (.int cd')) (K' : RoadKit.Arv Z h t' kb' .byte N2' vs' (.int 0)) (hc' : CodA ds cd' N2' vs') (hb' : ∀ c ∈ ds, ¬ c < 0 ∧ ¬ (65535 : Int32) < c) (l2' : ds.length ≤ 4000)
    {z : Int32} (S : RoadKit.Sta Z h ST "COMPACT_STRINGS" "Z" (.int z)) (hz : ¬ z = 0) (hfr : 2 ≤ R.frames) (hlo : W + 28 ≤ R.locals) :
    Back l R p e below s args (⟨"java/lang/String", "equals", "(Ljava/lang/Object;)Z"⟩ : MethodName) len W (fun P a => a = #[.ref x, .ref y] ∧ P.U.heap = h ∧ P.cells + 0 ≤ R.cells ∧ P.slots + 0 ≤ R.slots)
      (fun P _ v B => ∃ L, (((v = some (.int 1) ∧ cs = ds) ∨ (v = some (.int 0) ∧ ¬ cs = ds)) ∧ L = [] ∧ B.U.heap = h) ∧ B.locs = P.locs ++ L ∧ B.cells = P.cells + 0 ∧ B.slots = P.slots + 0) := by
  intro m meth c P g ig mk a X hg hsize hdg hW hn hp'
  obtain ⟨rfl, rfl, r1, r2⟩ := hp'
  have al : Z.vm.Alike P.U.vm := hZ.alike.trans X.warmed.alike
  obtain ⟨A, hx⟩ := txt_of wi al E V C K hc hb l2
  obtain ⟨A', hy⟩ := txt_of wi al E' V' C' K' hc' hb' l2'
  obtain ⟨v, B, X', ⟨⟨w, hv, hh, hq⟩, hl, hk, hs⟩, st⟩ := SEq.pays x t A cd cs.length (fun j => cs.getD j 0) y t' A' cd' ds.length (fun j => ds.getD j 0) z (tabEq_of (movedEq hZ hw)) hfr hlo m meth c P g ig mk _ X hg hsize hdg hW hn ⟨r1, r2, rfl, hx, hy, sta_is al S, hz⟩
  refine ⟨v, B, X', ⟨[], ⟨?_, rfl, hh⟩, hl, hk, hs⟩, st⟩
  rcases hq with ⟨rfl, q⟩ | ⟨rfl, q⟩
  · exact Or.inl ⟨hv, (same_list cs ds).mp q⟩
  · exact Or.inr ⟨hv, fun e => q ((same_list cs ds).mpr e)⟩
end StrChars.Road
namespace StrChars.Road
open Jvm Sem ClassFile Op Lib Jvm.Stand Jvm.Free Jvm.Free.XT
open Jvm.Lib.Cold (StaticIs)
/-- what backV says of its String, as the contracts of this text ask it: cs's low bytes, coder 0 -/
theorem codOf {cs : List Int32} {n : Nat} (hn : cs.length = n) (hb : ∀ c ∈ cs, ¬ 255 < c) : CodA cs 0 (Int32.ofNat n) ((cs.map lo8).map Value.int) := Or.inl ⟨rfl, by rw [hn], by simp [List.map_map, Function.comp_def], hb⟩
end StrChars.Road
end Jvm.Pilot.@@N@@
namespace Jvm.Pilot.@@N@@
open Jvm Jvm.ClassFile Sem Op Lib Jvm.Free Jvm.Stand Jvm.LawKit Jvm.RoadKit Bundle Jvm.Pilot.@@N@@.Jvm.D
section OwnKit
variable {Z : State} {EL : List (String × Nat)} {a0 : Array Value} {n0 : Nat} {h0 : Heap} {ws : List Addr} {own : String} {bytes : ByteArray} {mx : Nat} {p : Program} {l : Launch} {e : Env} {R : Room} {s : State} {m : MethodId} {args : Array Value} {below : List Frame} {meth : Method} {c : Code} {sv : List Addr} {T : State} {h : Heap} {k n : Nat} {P : Outcome → State → Prop} {pc : Nat} {Ls : Array Slot} {st : List Value}
def OGo (tb : Tables) (e : Env) (below : List Frame) (P : Outcome → State → Prop) (T : State) (g : JFrame) : Prop := ∃ (t : State) (o : Outcome), Steps tb e below (T.setTop g) t ∧ t.status = .running ∧ Ended t below o ∧ P o t
theorem og {tb : Tables} {T' : State} {g g' : JFrame} (st : ∀ t, Steps tb e below (T'.setTop g') t → Steps tb e below (T.setTop g) t) (K : OGo tb e below P T' g') : OGo tb e below P T g := by
  obtain ⟨t, o, h1, h2⟩ := K
  exact ⟨t, o, st t h1, h2⟩
def OEnd (Z : State) (EL : List (String × Nat)) (n0 : Nat) (h0 : Heap) (ws : List Addr) (s : State) (Q : Option Value → Heap → Prop) (k n : Nat) (o : Outcome) (t : State) : Prop :=
  ∃ v L, o = .returned v ∧ (Fr n0 L ∧ Keep h0 t.heap ws ∧ Q v t.heap) ∧ CHr Z EL s.vm s.heap t.vm t.heap ∧ ReturnedEndW s o t L k n ∧ (EL = [] → FrameEnd s o t L k n)
def OIn (Z : State) (EL : List (String × Nat)) (a0 : Array Value) (n0 : Nat) (h0 : Heap) (ws : List Addr) (own : String) (s : State) (m : MethodId) (sv : List Addr) (vm0 : Vm) (locs : List Loc) (h : Heap) : Prop :=
  s.heap = h0 ∧ Old Z n0 h ∧ Keep h0 h ws ∧ (∃ k0, s.Since vm0 k0 ∧ k0 ≤ h.size) ∧ Z.Warmed39 vm0 ∧ vm0.findClass own = some m.cls ∧ EW Z a0 EL ∧ CHr Z EL s.vm s.heap vm0 h ∧ (EL = [] → vm0 = s.vm) ∧ Fr n0 locs ∧ ∀ x ∈ sv, n0 ≤ x ∧ x < h.size ∧ (x ∈ ws ∨ h0.size ≤ x) ∧ Safe Z EL vm0 h x
def OSt (Z : State) (EL : List (String × Nat)) (a0 : Array Value) (n0 : Nat) (h0 : Heap) (ws : List Addr) (own : String) (bytes : ByteArray) (mx : Nat) (p : Program) (l : Launch) (e : Env) (R : Room) (s : State) (m : MethodId) (args : Array Value) (below : List Frame) (meth : Method) (c : Code) (sv : List Addr) (T : State) (h : Heap) (k n : Nat) : Prop :=
  p.tables.exec = Jvm.exec ∧ c.code = bytes ∧ c.maxLocals = mx ∧ T.heap = h ∧ meth.locks = false ∧ ∃ (vm0 : Vm) (locs : List Loc), Stand p l e R (s.setVm vm0) m args below meth c T locs k n ∧ OIn Z EL a0 n0 h0 ws own s m sv vm0 locs h
theorem OSt.here (X : OSt Z EL a0 n0 h0 ws own bytes mx p l e R s m args below meth c sv T h k n) : At T m c below := by obtain ⟨-, -, -, -, -, _, _, Y, -⟩ := X; exact Y.here
theorem OSt.hx (X : OSt Z EL a0 n0 h0 ws own bytes mx p l e R s m args below meth c sv T h k n) : p.tables.exec = Jvm.exec := X.1
theorem OSt.hd (X : OSt Z EL a0 n0 h0 ws own bytes mx p l e R s m args below meth c sv T h k n) {r : Except ClassFile.DecodeError (ClassFile.Instr × Nat)} (hd : decode bytes pc = r) : decode c.code pc = r := hb X.2.1 hd
theorem OSt.old (X : OSt Z EL a0 n0 h0 ws own bytes mx p l e R s m args below meth c sv T h k n) : Old Z n0 h := by obtain ⟨-, -, -, -, -, _, _, -, -, I, -⟩ := X; exact I
theorem OSt.kept (X : OSt Z EL a0 n0 h0 ws own bytes mx p l e R s m args below meth c sv T h k n) : Keep h0 h ws := by obtain ⟨-, -, -, -, -, _, _, -, -, -, I, -⟩ := X; exact I
theorem OSt.more (X : OSt Z EL a0 n0 h0 ws own bytes mx p l e R s m args below meth c sv T h k n) {k' n' : Nat} (hk : k ≤ k') (hn : n ≤ n') : OSt Z EL a0 n0 h0 ws own bytes mx p l e R s m args below meth c sv T h k' n' := by
  obtain ⟨a1, a2, a3, a4, a5, vm0, locs, Y, I⟩ := X
  exact ⟨a1, a2, a3, a4, a5, vm0, locs, Y.more hk hn, I⟩
theorem OSt.less (X : OSt Z EL a0 n0 h0 ws own bytes mx p l e R s m args below meth c sv T h k n) {sv' : List Addr} (q : ∀ x ∈ sv', x ∈ sv) : OSt Z EL a0 n0 h0 ws own bytes mx p l e R s m args below meth c sv' T h k n := by
  obtain ⟨a1, a2, a3, a4, a5, vm0, locs, Y, b1, b2, b3, b4, b5, b6, b7, b8, b9, b10, b11⟩ := X
  exact ⟨a1, a2, a3, a4, a5, vm0, locs, Y, b1, b2, b3, b4, b5, b6, b7, b8, b9, b10, fun x hx => b11 x (q x hx)⟩
theorem OIn.ext {vm0 : Vm} {locs : List Loc} {h' : Heap} (I : OIn Z EL a0 n0 h0 ws own s m sv vm0 locs h) (E : Ext h h') : OIn Z EL a0 n0 h0 ws own s m sv vm0 locs h' := by
  obtain ⟨b1, b2, b3, ⟨k0, b4, b4'⟩, b5, b6, b7, b8, b9, b10, b11⟩ := I
  exact ⟨b1, b2.ext E, b3.ext E, ⟨k0, b4, Nat.le_trans b4' E.1⟩, b5, b6, b7, b8.trans (CHr.ext E b8.1), b9, b10, fun x hx => let q := b11 x hx; ⟨q.1, Nat.lt_of_lt_of_le q.2.1 E.1, q.2.2.1, Safe.ext E b8.1 q.2.2.2⟩⟩
theorem OIn.new {vm0 : Vm} {locs : List Loc} {h' : Heap} (I : OIn Z EL a0 n0 h0 ws own s m sv vm0 locs h) (E : Ext h h') {b : Addr} (h1 : h.size ≤ b) (h2 : b < h'.size) : OIn Z EL a0 n0 h0 ws own s m (b :: sv) vm0 locs h' := by
  have I' := I.ext E
  obtain ⟨b1, b2, b3, -, -, -, -, b8, -⟩ := I
  obtain ⟨c1, c2, c3, c4, c5, c6, c7, c8, c9, c10, c11⟩ := I'
  refine ⟨c1, c2, c3, c4, c5, c6, c7, c8, c9, c10, fun x hx => ?_⟩
  rcases List.mem_cons.mp hx with rfl | hx
  · exact ⟨Nat.le_trans (Nat.le_of_eq b2.1.symm) (Nat.le_trans b2.2.1 h1), h2, Or.inr (Nat.le_trans b3.1 h1), Safe.ext E b8.1 (Safe.new h1)⟩
  · exact c11 x hx
theorem OIn.wr {vm0 : Vm} {locs : List Loc} {h' : Heap} (I : OIn Z EL a0 n0 h0 ws own s m sv vm0 locs h) {a : Addr} {sl : Nat} {v : Value} (ha : a ∈ sv) (W : Wr h h' a sl v) : OIn Z EL a0 n0 h0 ws own s m sv vm0 (locs ++ [⟨a, sl⟩]) h' := by
  obtain ⟨b1, b2, b3, ⟨k0, b4, b4'⟩, b5, b6, b7, b8, b9, b10, b11⟩ := I
  obtain ⟨q1, q2, q3, q4⟩ := b11 a ha
  refine ⟨b1, b2.wr W q1, b3.wr W q3, ⟨k0, b4, by rw [W.size]; exact b4'⟩, b5, b6, b7, b8.trans (CHr.wr W q4 b8.1), b9, b10.app fun y hy => ?_, fun x hx => let r := b11 x hx; ⟨r.1, by rw [W.size]; exact r.2.1, r.2.2.1, Safe.wr W q4 b8.1 r.2.2.2⟩⟩
  cases List.mem_singleton.mp hy; exact q1
theorem OIn.keep {vm0 : Vm} {locs : List Loc} {h' : Heap} (I : OIn Z EL a0 n0 h0 ws own s m sv vm0 locs h) {ws' : List Addr} {L : List Loc} (K : Keep h h' ws') (hs : ∀ x ∈ ws', x ∈ sv) (N : Fr n0 L) : OIn Z EL a0 n0 h0 ws own s m sv vm0 (locs ++ L) h' := by
  obtain ⟨b1, b2, b3, ⟨k0, b4, b4'⟩, b5, b6, b7, b8, b9, b10, b11⟩ := I
  have sf : ∀ x ∈ ws', Safe Z EL vm0 h x := fun x hx => (b11 x (hs x hx)).2.2.2
  exact ⟨b1, b2.keep K fun x hx => (b11 x (hs x hx)).1, b3.trans K fun x hx => (b11 x (hs x hx)).2.2.1, ⟨k0, b4, Nat.le_trans b4' K.1⟩, b5, b6, b7, b8.trans (CHr.keep K sf b8.1), b9, b10.app N, fun x hx => let r := b11 x hx; ⟨r.1, Nat.lt_of_lt_of_le r.2.1 K.1, r.2.2.1, Safe.keep K sf b8.1 r.2.2.2⟩⟩
theorem OIn.call {vm0 : Vm} {locs : List Loc} {h' : Heap} {vm1 : Vm} (I : OIn Z EL a0 n0 h0 ws own s m sv vm0 locs h) {ws' : List Addr} {L : List Loc} (K : Keep h h' ws') (hs : ∀ x ∈ ws', x ∈ sv) (N : Fr n0 L) (C : CHr Z EL vm0 h vm1 h') (S : (s.setVm vm0).Since vm1 h'.size) (hne : EL = [] → vm1 = vm0) : OIn Z EL a0 n0 h0 ws own s m sv vm1 (locs ++ L) h' := by
  obtain ⟨b1, b2, b3, ⟨k0, b4, b4'⟩, b5, b6, b7, b8, b9, b10, b11⟩ := I
  exact ⟨b1, b2.keep K fun x hx => (b11 x (hs x hx)).1, b3.trans K fun x hx => (b11 x (hs x hx)).2.2.1, ⟨_, b4.trans S (Nat.le_trans b4' K.1), Nat.le_refl _⟩, State.Warmed39.trans (t := s.setVm vm0) b5 S.1, by rw [S.1.alike.findClass]; exact b6, b7, b8.trans C, fun q => (hne q).trans (b9 q), b10.app N, fun x hx => let r := b11 x hx; ⟨r.1, Nat.lt_of_lt_of_le r.2.1 K.1, r.2.2.1, C.safe r.2.1 r.2.2.2⟩⟩
theorem og_aload (X : OSt Z EL a0 n0 h0 ws own bytes mx p l e R s m args below meth c sv T h k n) (pc' : Nat) {j : Nat} {v : Value} (hd : decode bytes pc = .ok (.aload j, 2)) (hl : Ls[j]? = some (.val (v))) (hv : v.isRef = true) (hq : pc' = pc + 2) (K : OGo p.tables e below P T (mkF m pc' Ls (v :: st))) : OGo p.tables e below P T (mkF m pc Ls st) := by
  subst hq
  exact og (fun _ q => XS.aload X.here X.hx rfl (X.hd hd) hl hv q) K
theorem og_aloadN (X : OSt Z EL a0 n0 h0 ws own bytes mx p l e R s m args below meth c sv T h k n) (pc' : Nat) {j : Fin 4} {v : Value} (hd : decode bytes pc = .ok (.aload_n j, 1)) (hl : Ls[j.val]? = some (.val (v))) (hv : v.isRef = true) (hq : pc' = pc + 1) (K : OGo p.tables e below P T (mkF m pc' Ls (v :: st))) : OGo p.tables e below P T (mkF m pc Ls st) := by
  subst hq
  exact og (fun _ q => XS.aloadN X.here X.hx rfl (X.hd hd) hl hv q) K
theorem og_iload (X : OSt Z EL a0 n0 h0 ws own bytes mx p l e R s m args below meth c sv T h k n) (pc' : Nat) {j : Nat} {v : Int32} (hd : decode bytes pc = .ok (.iload j, 2)) (hl : Ls[j]? = some (.val (.int v))) (hq : pc' = pc + 2) (K : OGo p.tables e below P T (mkF m pc' Ls (.int v :: st))) : OGo p.tables e below P T (mkF m pc Ls st) := by
  subst hq
  exact og (fun _ q => XS.iload X.here X.hx rfl (X.hd hd) hl q) K
theorem og_iloadN (X : OSt Z EL a0 n0 h0 ws own bytes mx p l e R s m args below meth c sv T h k n) (pc' : Nat) {j : Fin 4} {v : Int32} (hd : decode bytes pc = .ok (.iload_n j, 1)) (hl : Ls[j.val]? = some (.val (.int v))) (hq : pc' = pc + 1) (K : OGo p.tables e below P T (mkF m pc' Ls (.int v :: st))) : OGo p.tables e below P T (mkF m pc Ls st) := by
  subst hq
  exact og (fun _ q => XS.iloadN X.here X.hx rfl (X.hd hd) hl q) K
theorem og_lload (X : OSt Z EL a0 n0 h0 ws own bytes mx p l e R s m args below meth c sv T h k n) (pc' : Nat) {j : Nat} {v : Int64} (hd : decode bytes pc = .ok (.lload j, 2)) (hl : Ls[j]? = some (.val (.long v))) (hq : pc' = pc + 2) (K : OGo p.tables e below P T (mkF m pc' Ls (.long v :: st))) : OGo p.tables e below P T (mkF m pc Ls st) := by
  subst hq
  exact og (fun _ q => XT.lload X.here X.hx rfl (X.hd hd) hl q) K
theorem og_lloadN (X : OSt Z EL a0 n0 h0 ws own bytes mx p l e R s m args below meth c sv T h k n) (pc' : Nat) {j : Fin 4} {v : Int64} (hd : decode bytes pc = .ok (.lload_n j, 1)) (hl : Ls[j.val]? = some (.val (.long v))) (hq : pc' = pc + 1) (K : OGo p.tables e below P T (mkF m pc' Ls (.long v :: st))) : OGo p.tables e below P T (mkF m pc Ls st) := by
  subst hq
  exact og (fun _ q => XT.lloadN X.here X.hx rfl (X.hd hd) hl q) K
theorem og_iconst (X : OSt Z EL a0 n0 h0 ws own bytes mx p l e R s m args below meth c sv T h k n) (pc' : Nat) (v : Int32) {i : Int} (hd : decode bytes pc = .ok (.iconst i, 1)) (hv : Int32.ofInt i = v) (hq : pc' = pc + 1) (K : OGo p.tables e below P T (mkF m pc' Ls (.int v :: st))) : OGo p.tables e below P T (mkF m pc Ls st) := by
  subst hq hv
  exact og (fun _ q => XS.iconst X.here X.hx rfl (X.hd hd) q) K
theorem og_bipush (X : OSt Z EL a0 n0 h0 ws own bytes mx p l e R s m args below meth c sv T h k n) (pc' : Nat) (v : Int32) {i : Int} (hd : decode bytes pc = .ok (.bipush i, 2)) (hv : (Int8.ofInt i).toInt32 = v) (hq : pc' = pc + 2) (K : OGo p.tables e below P T (mkF m pc' Ls (.int v :: st))) : OGo p.tables e below P T (mkF m pc Ls st) := by
  subst hq hv
  exact og (fun _ q => XS.bipush X.here X.hx rfl (X.hd hd) q) K
theorem og_sipush (X : OSt Z EL a0 n0 h0 ws own bytes mx p l e R s m args below meth c sv T h k n) (pc' : Nat) (v : Int32) {i : Int} (hd : decode bytes pc = .ok (.sipush i, 3)) (hv : (Int16.ofInt i).toInt32 = v) (hq : pc' = pc + 3) (K : OGo p.tables e below P T (mkF m pc' Ls (.int v :: st))) : OGo p.tables e below P T (mkF m pc Ls st) := by
  subst hq hv
  exact og (fun _ q => XS.sipush X.here X.hx rfl (X.hd hd) q) K
theorem og_lconst (X : OSt Z EL a0 n0 h0 ws own bytes mx p l e R s m args below meth c sv T h k n) (pc' : Nat) (v : Int64) {i : Fin 2} (hd : decode bytes pc = .ok (.lconst i, 1)) (hv : Int64.ofNat i = v) (hq : pc' = pc + 1) (K : OGo p.tables e below P T (mkF m pc' Ls (.long v :: st))) : OGo p.tables e below P T (mkF m pc Ls st) := by
  subst hq hv
  exact og (fun _ q => XT.lconst X.here X.hx rfl (X.hd hd) q) K
theorem og_aconstNull (X : OSt Z EL a0 n0 h0 ws own bytes mx p l e R s m args below meth c sv T h k n) (pc' : Nat)  (hd : decode bytes pc = .ok (.aconst_null, 1))  (hq : pc' = pc + 1) (K : OGo p.tables e below P T (mkF m pc' Ls (.null :: st))) : OGo p.tables e below P T (mkF m pc Ls st) := by
  subst hq
  exact og (fun _ q => XS.aconstNull X.here X.hx rfl (X.hd hd) q) K
theorem og_iadd (X : OSt Z EL a0 n0 h0 ws own bytes mx p l e R s m args below meth c sv T h k n) (pc' : Nat) {x y : Int32} (hd : decode bytes pc = .ok (.iadd, 1))  (hq : pc' = pc + 1) (K : OGo p.tables e below P T (mkF m pc' Ls (.int (x + y) :: st))) : OGo p.tables e below P T (mkF m pc Ls (.int y :: .int x :: st)) := by
  subst hq
  exact og (fun _ q => XS.iadd X.here X.hx rfl (X.hd hd) rfl q) K
theorem og_isub (X : OSt Z EL a0 n0 h0 ws own bytes mx p l e R s m args below meth c sv T h k n) (pc' : Nat) {x y : Int32} (hd : decode bytes pc = .ok (.isub, 1))  (hq : pc' = pc + 1) (K : OGo p.tables e below P T (mkF m pc' Ls (.int (x - y) :: st))) : OGo p.tables e below P T (mkF m pc Ls (.int y :: .int x :: st)) := by
  subst hq
  exact og (fun _ q => XS.isub X.here X.hx rfl (X.hd hd) rfl q) K
theorem og_iand (X : OSt Z EL a0 n0 h0 ws own bytes mx p l e R s m args below meth c sv T h k n) (pc' : Nat) {x y : Int32} (hd : decode bytes pc = .ok (.iand, 1))  (hq : pc' = pc + 1) (K : OGo p.tables e below P T (mkF m pc' Ls (.int (x &&& y) :: st))) : OGo p.tables e below P T (mkF m pc Ls (.int y :: .int x :: st)) := by
  subst hq
  exact og (fun _ q => XS.iand X.here X.hx rfl (X.hd hd) rfl q) K
theorem og_imul (X : OSt Z EL a0 n0 h0 ws own bytes mx p l e R s m args below meth c sv T h k n) (pc' : Nat) {x y : Int32} (hd : decode bytes pc = .ok (.imul, 1))  (hq : pc' = pc + 1) (K : OGo p.tables e below P T (mkF m pc' Ls (.int (x * y) :: st))) : OGo p.tables e below P T (mkF m pc Ls (.int y :: .int x :: st)) := by
  subst hq
  exact og (fun _ q => XS.imul X.here X.hx rfl (X.hd hd) rfl q) K
theorem og_ixor (X : OSt Z EL a0 n0 h0 ws own bytes mx p l e R s m args below meth c sv T h k n) (pc' : Nat) {x y : Int32} (hd : decode bytes pc = .ok (.ixor, 1))  (hq : pc' = pc + 1) (K : OGo p.tables e below P T (mkF m pc' Ls (.int (x ^^^ y) :: st))) : OGo p.tables e below P T (mkF m pc Ls (.int y :: .int x :: st)) := by
  subst hq
  exact og (fun _ q => XT.ixor X.here X.hx rfl (X.hd hd) rfl q) K
theorem og_ior (X : OSt Z EL a0 n0 h0 ws own bytes mx p l e R s m args below meth c sv T h k n) (pc' : Nat) {x y : Int32} (hd : decode bytes pc = .ok (.ior, 1))  (hq : pc' = pc + 1) (K : OGo p.tables e below P T (mkF m pc' Ls (.int (x ||| y) :: st))) : OGo p.tables e below P T (mkF m pc Ls (.int y :: .int x :: st)) := by
  subst hq
  exact og (fun _ q => XT.ior X.here X.hx rfl (X.hd hd) rfl q) K
theorem og_ishl (X : OSt Z EL a0 n0 h0 ws own bytes mx p l e R s m args below meth c sv T h k n) (pc' : Nat) {x y : Int32} (hd : decode bytes pc = .ok (.ishl, 1))  (hq : pc' = pc + 1) (K : OGo p.tables e below P T (mkF m pc' Ls (.int (x <<< (y &&& 31)) :: st))) : OGo p.tables e below P T (mkF m pc Ls (.int y :: .int x :: st)) := by
  subst hq
  exact og (fun _ q => XT.ishl X.here X.hx rfl (X.hd hd) rfl q) K
theorem og_ishr (X : OSt Z EL a0 n0 h0 ws own bytes mx p l e R s m args below meth c sv T h k n) (pc' : Nat) {x y : Int32} (hd : decode bytes pc = .ok (.ishr, 1))  (hq : pc' = pc + 1) (K : OGo p.tables e below P T (mkF m pc' Ls (.int (x >>> (y &&& 31)) :: st))) : OGo p.tables e below P T (mkF m pc Ls (.int y :: .int x :: st)) := by
  subst hq
  exact og (fun _ q => XT.ishr X.here X.hx rfl (X.hd hd) rfl q) K
theorem og_iushr (X : OSt Z EL a0 n0 h0 ws own bytes mx p l e R s m args below meth c sv T h k n) (pc' : Nat) {x y : Int32} (hd : decode bytes pc = .ok (.iushr, 1))  (hq : pc' = pc + 1) (K : OGo p.tables e below P T (mkF m pc' Ls (.int (Jvm.Free.XT.ushr x y) :: st))) : OGo p.tables e below P T (mkF m pc Ls (.int y :: .int x :: st)) := by
  subst hq
  exact og (fun _ q => XT.iushr X.here X.hx rfl (X.hd hd) rfl q) K
theorem og_idiv (X : OSt Z EL a0 n0 h0 ws own bytes mx p l e R s m args below meth c sv T h k n) (pc' : Nat) {x y : Int32} (hd : decode bytes pc = .ok (.idiv, 1)) (hy : y ≠ 0) (hq : pc' = pc + 1) (K : OGo p.tables e below P T (mkF m pc' Ls (.int (x / y) :: st))) : OGo p.tables e below P T (mkF m pc Ls (.int y :: .int x :: st)) := by
  subst hq
  exact og (fun _ q => XS.idiv X.here X.hx rfl (X.hd hd) rfl hy q) K
theorem og_irem (X : OSt Z EL a0 n0 h0 ws own bytes mx p l e R s m args below meth c sv T h k n) (pc' : Nat) {x y : Int32} (hd : decode bytes pc = .ok (.irem, 1)) (hy : y ≠ 0) (hq : pc' = pc + 1) (K : OGo p.tables e below P T (mkF m pc' Ls (.int (x % y) :: st))) : OGo p.tables e below P T (mkF m pc Ls (.int y :: .int x :: st)) := by
  subst hq
  have q0 : x - x / y * y = x % y := irem_eq_mod x y
  exact og (fun _ q => XS.irem X.here X.hx rfl (X.hd hd) rfl hy (by rw [q0]; exact q)) K
theorem og_ineg (X : OSt Z EL a0 n0 h0 ws own bytes mx p l e R s m args below meth c sv T h k n) (pc' : Nat) {x : Int32} (hd : decode bytes pc = .ok (.ineg, 1))  (hq : pc' = pc + 1) (K : OGo p.tables e below P T (mkF m pc' Ls (.int (-x) :: st))) : OGo p.tables e below P T (mkF m pc Ls (.int x :: st)) := by
  subst hq
  exact og (fun _ q => XS.ineg X.here X.hx rfl (X.hd hd) rfl q) K
theorem og_ladd (X : OSt Z EL a0 n0 h0 ws own bytes mx p l e R s m args below meth c sv T h k n) (pc' : Nat) {x y : Int64} (hd : decode bytes pc = .ok (.ladd, 1))  (hq : pc' = pc + 1) (K : OGo p.tables e below P T (mkF m pc' Ls (.long (x + y) :: st))) : OGo p.tables e below P T (mkF m pc Ls (.long y :: .long x :: st)) := by
  subst hq
  exact og (fun _ q => XT.ladd X.here X.hx rfl (X.hd hd) rfl q) K
theorem og_lsub (X : OSt Z EL a0 n0 h0 ws own bytes mx p l e R s m args below meth c sv T h k n) (pc' : Nat) {x y : Int64} (hd : decode bytes pc = .ok (.lsub, 1))  (hq : pc' = pc + 1) (K : OGo p.tables e below P T (mkF m pc' Ls (.long (x - y) :: st))) : OGo p.tables e below P T (mkF m pc Ls (.long y :: .long x :: st)) := by
  subst hq
  exact og (fun _ q => XT.lsub X.here X.hx rfl (X.hd hd) rfl q) K
theorem og_lmul (X : OSt Z EL a0 n0 h0 ws own bytes mx p l e R s m args below meth c sv T h k n) (pc' : Nat) {x y : Int64} (hd : decode bytes pc = .ok (.lmul, 1))  (hq : pc' = pc + 1) (K : OGo p.tables e below P T (mkF m pc' Ls (.long (x * y) :: st))) : OGo p.tables e below P T (mkF m pc Ls (.long y :: .long x :: st)) := by
  subst hq
  exact og (fun _ q => XT.lmul X.here X.hx rfl (X.hd hd) rfl q) K
theorem og_land (X : OSt Z EL a0 n0 h0 ws own bytes mx p l e R s m args below meth c sv T h k n) (pc' : Nat) {x y : Int64} (hd : decode bytes pc = .ok (.land, 1))  (hq : pc' = pc + 1) (K : OGo p.tables e below P T (mkF m pc' Ls (.long (x &&& y) :: st))) : OGo p.tables e below P T (mkF m pc Ls (.long y :: .long x :: st)) := by
  subst hq
  exact og (fun _ q => XT.land X.here X.hx rfl (X.hd hd) rfl q) K
theorem og_lor (X : OSt Z EL a0 n0 h0 ws own bytes mx p l e R s m args below meth c sv T h k n) (pc' : Nat) {x y : Int64} (hd : decode bytes pc = .ok (.lor, 1))  (hq : pc' = pc + 1) (K : OGo p.tables e below P T (mkF m pc' Ls (.long (x ||| y) :: st))) : OGo p.tables e below P T (mkF m pc Ls (.long y :: .long x :: st)) := by
  subst hq
  exact og (fun _ q => XT.lor X.here X.hx rfl (X.hd hd) rfl q) K
theorem og_lxor (X : OSt Z EL a0 n0 h0 ws own bytes mx p l e R s m args below meth c sv T h k n) (pc' : Nat) {x y : Int64} (hd : decode bytes pc = .ok (.lxor, 1))  (hq : pc' = pc + 1) (K : OGo p.tables e below P T (mkF m pc' Ls (.long (x ^^^ y) :: st))) : OGo p.tables e below P T (mkF m pc Ls (.long y :: .long x :: st)) := by
  subst hq
  exact og (fun _ q => XT.lxor X.here X.hx rfl (X.hd hd) rfl q) K
theorem og_lcmp (X : OSt Z EL a0 n0 h0 ws own bytes mx p l e R s m args below meth c sv T h k n) (pc' : Nat) {x y : Int64} (hd : decode bytes pc = .ok (.lcmp, 1))  (hq : pc' = pc + 1) (K : OGo p.tables e below P T (mkF m pc' Ls (.int (Jvm.Free.XT.cmpL x y) :: st))) : OGo p.tables e below P T (mkF m pc Ls (.long y :: .long x :: st)) := by
  subst hq
  exact og (fun _ q => XT.lcmp X.here X.hx rfl (X.hd hd) rfl q) K
theorem og_i2l (X : OSt Z EL a0 n0 h0 ws own bytes mx p l e R s m args below meth c sv T h k n) (pc' : Nat) {x : Int32} (hd : decode bytes pc = .ok (.i2l, 1))  (hq : pc' = pc + 1) (K : OGo p.tables e below P T (mkF m pc' Ls (.long x.toInt64 :: st))) : OGo p.tables e below P T (mkF m pc Ls (.int x :: st)) := by
  subst hq
  exact og (fun _ q => XT.i2l X.here X.hx rfl (X.hd hd) rfl q) K
theorem og_i2b (X : OSt Z EL a0 n0 h0 ws own bytes mx p l e R s m args below meth c sv T h k n) (pc' : Nat) {x : Int32} (hd : decode bytes pc = .ok (.i2b, 1))  (hq : pc' = pc + 1) (K : OGo p.tables e below P T (mkF m pc' Ls (.int x.toInt8.toInt32 :: st))) : OGo p.tables e below P T (mkF m pc Ls (.int x :: st)) := by
  subst hq
  exact og (fun _ q => XT.i2b X.here X.hx rfl (X.hd hd) rfl q) K
theorem og_i2c (X : OSt Z EL a0 n0 h0 ws own bytes mx p l e R s m args below meth c sv T h k n) (pc' : Nat) {x : Int32} (hd : decode bytes pc = .ok (.i2c, 1))  (hq : pc' = pc + 1) (K : OGo p.tables e below P T (mkF m pc' Ls (.int x.toUInt32.toUInt16.toUInt32.toInt32 :: st))) : OGo p.tables e below P T (mkF m pc Ls (.int x :: st)) := by
  subst hq
  exact og (fun _ q => XT.i2c X.here X.hx rfl (X.hd hd) rfl q) K
theorem og_i2s (X : OSt Z EL a0 n0 h0 ws own bytes mx p l e R s m args below meth c sv T h k n) (pc' : Nat) {x : Int32} (hd : decode bytes pc = .ok (.i2s, 1))  (hq : pc' = pc + 1) (K : OGo p.tables e below P T (mkF m pc' Ls (.int x.toInt16.toInt32 :: st))) : OGo p.tables e below P T (mkF m pc Ls (.int x :: st)) := by
  subst hq
  exact og (fun _ q => XT.i2s X.here X.hx rfl (X.hd hd) rfl q) K
theorem og_l2i (X : OSt Z EL a0 n0 h0 ws own bytes mx p l e R s m args below meth c sv T h k n) (pc' : Nat) {x : Int64} (hd : decode bytes pc = .ok (.l2i, 1))  (hq : pc' = pc + 1) (K : OGo p.tables e below P T (mkF m pc' Ls (.int x.toInt32 :: st))) : OGo p.tables e below P T (mkF m pc Ls (.long x :: st)) := by
  subst hq
  exact og (fun _ q => XT.l2i X.here X.hx rfl (X.hd hd) rfl q) K
theorem og_i2c8 (X : OSt Z EL a0 n0 h0 ws own bytes mx p l e R s m args below meth c sv T h k n) (pc' : Nat) {x : Int32} (hd : decode bytes pc = .ok (.i2c, 1)) (hq : pc' = pc + 1) (K : OGo p.tables e below P T (mkF m pc' Ls (.int (x &&& 255) :: st))) : OGo p.tables e below P T (mkF m pc Ls (.int (x &&& 255) :: st)) := by
  subst hq
  exact og (fun _ q => XT.i2c X.here X.hx rfl (X.hd hd) rfl (by rw [i2c_mask]; exact q)) K
theorem og_dup (X : OSt Z EL a0 n0 h0 ws own bytes mx p l e R s m args below meth c sv T h k n) (pc' : Nat) {x : Value} (hd : decode bytes pc = .ok (.dup, 1)) (hc : x.category = 1) (hq : pc' = pc + 1) (K : OGo p.tables e below P T (mkF m pc' Ls (x :: x :: st))) : OGo p.tables e below P T (mkF m pc Ls (x :: st)) := by
  subst hq
  exact og (fun _ q => XS.dup X.here X.hx rfl (X.hd hd) rfl hc q) K
theorem og_pop (X : OSt Z EL a0 n0 h0 ws own bytes mx p l e R s m args below meth c sv T h k n) (pc' : Nat) {x : Value} (hd : decode bytes pc = .ok (.pop, 1)) (hc : x.category = 1) (hq : pc' = pc + 1) (K : OGo p.tables e below P T (mkF m pc' Ls st)) : OGo p.tables e below P T (mkF m pc Ls (x :: st)) := by
  subst hq
  exact og (fun _ q => XT.pop X.here X.hx rfl (X.hd hd) rfl hc q) K
theorem og_dupX1 (X : OSt Z EL a0 n0 h0 ws own bytes mx p l e R s m args below meth c sv T h k n) (pc' : Nat) {x y : Value} (hd : decode bytes pc = .ok (.dup_x1, 1)) (hc : x.category = 1) (hc' : y.category = 1) (hq : pc' = pc + 1) (K : OGo p.tables e below P T (mkF m pc' Ls (x :: y :: x :: st))) : OGo p.tables e below P T (mkF m pc Ls (x :: y :: st)) := by
  subst hq
  exact og (fun _ q => XT.dupX1 X.here X.hx rfl (X.hd hd) rfl hc hc' q) K
theorem og_dup2 (X : OSt Z EL a0 n0 h0 ws own bytes mx p l e R s m args below meth c sv T h k n) (pc' : Nat) {x y : Value} (hd : decode bytes pc = .ok (.dup2, 1)) (hc : x.category = 1) (hc' : y.category = 1) (hq : pc' = pc + 1) (K : OGo p.tables e below P T (mkF m pc' Ls (x :: y :: x :: y :: st))) : OGo p.tables e below P T (mkF m pc Ls (x :: y :: st)) := by
  subst hq
  exact og (fun _ q => XT.dup2 X.here X.hx rfl (X.hd hd) rfl hc hc' q) K
theorem og_istore (X : OSt Z EL a0 n0 h0 ws own bytes mx p l e R s m args below meth c sv T h k n) (pc' : Nat) (l' : Array Slot) {j : Nat} {x : Int32} (hd : decode bytes pc = .ok (.istore j, 2)) (hl : storeLocals Ls j (.int x) = some l') (hq : pc' = pc + 2) (K : OGo p.tables e below P T (mkF m pc' l' st)) : OGo p.tables e below P T (mkF m pc Ls (.int x :: st)) := by
  subst hq
  exact og (fun _ q => XS.istore X.here X.hx rfl (X.hd hd) rfl hl q) K
theorem og_istoreN (X : OSt Z EL a0 n0 h0 ws own bytes mx p l e R s m args below meth c sv T h k n) (pc' : Nat) (l' : Array Slot) {j : Fin 4} {x : Int32} (hd : decode bytes pc = .ok (.istore_n j, 1)) (hl : storeLocals Ls j.val (.int x) = some l') (hq : pc' = pc + 1) (K : OGo p.tables e below P T (mkF m pc' l' st)) : OGo p.tables e below P T (mkF m pc Ls (.int x :: st)) := by
  subst hq
  exact og (fun _ q => XS.istoreN X.here X.hx rfl (X.hd hd) rfl hl q) K
theorem og_lstore (X : OSt Z EL a0 n0 h0 ws own bytes mx p l e R s m args below meth c sv T h k n) (pc' : Nat) (l' : Array Slot) {j : Nat} {x : Int64} (hd : decode bytes pc = .ok (.lstore j, 2)) (hl : storeLocals Ls j (.long x) = some l') (hq : pc' = pc + 2) (K : OGo p.tables e below P T (mkF m pc' l' st)) : OGo p.tables e below P T (mkF m pc Ls (.long x :: st)) := by
  subst hq
  exact og (fun _ q => XT.lstore X.here X.hx rfl (X.hd hd) rfl hl q) K
theorem og_lstoreN (X : OSt Z EL a0 n0 h0 ws own bytes mx p l e R s m args below meth c sv T h k n) (pc' : Nat) (l' : Array Slot) {j : Fin 4} {x : Int64} (hd : decode bytes pc = .ok (.lstore_n j, 1)) (hl : storeLocals Ls j.val (.long x) = some l') (hq : pc' = pc + 1) (K : OGo p.tables e below P T (mkF m pc' l' st)) : OGo p.tables e below P T (mkF m pc Ls (.long x :: st)) := by
  subst hq
  exact og (fun _ q => XT.lstoreN X.here X.hx rfl (X.hd hd) rfl hl q) K
theorem og_astore (X : OSt Z EL a0 n0 h0 ws own bytes mx p l e R s m args below meth c sv T h k n) (pc' : Nat) (l' : Array Slot) {j : Nat} {x : Value} (hd : decode bytes pc = .ok (.astore j, 2)) (hv : x.isRef = true) (hl : storeLocals Ls j x = some l') (hq : pc' = pc + 2) (K : OGo p.tables e below P T (mkF m pc' l' st)) : OGo p.tables e below P T (mkF m pc Ls (x :: st)) := by
  subst hq
  exact og (fun _ q => XS.astore X.here X.hx rfl (X.hd hd) rfl hv hl q) K
theorem og_astoreN (X : OSt Z EL a0 n0 h0 ws own bytes mx p l e R s m args below meth c sv T h k n) (pc' : Nat) (l' : Array Slot) {j : Fin 4} {x : Value} (hd : decode bytes pc = .ok (.astore_n j, 1)) (hv : x.isRef = true) (hl : storeLocals Ls j.val x = some l') (hq : pc' = pc + 1) (K : OGo p.tables e below P T (mkF m pc' l' st)) : OGo p.tables e below P T (mkF m pc Ls (x :: st)) := by
  subst hq
  exact og (fun _ q => XS.astoreN X.here X.hx rfl (X.hd hd) rfl hv hl q) K
theorem og_iinc (X : OSt Z EL a0 n0 h0 ws own bytes mx p l e R s m args below meth c sv T h k n) (pc' : Nat) (l' : Array Slot) {j : Nat} {i : Int} {x : Int32} (hd : decode bytes pc = .ok (.iinc j i, 3)) (hl : Ls[j]? = some (.val (.int x))) (hl' : storeLocals Ls j (.int (x + Int32.ofInt i)) = some l') (hq : pc' = pc + 3) (K : OGo p.tables e below P T (mkF m pc' l' st)) : OGo p.tables e below P T (mkF m pc Ls st) := by
  subst hq
  exact og (fun _ q => XS.iinc X.here X.hx rfl (X.hd hd) hl hl' q) K
theorem og_goto (X : OSt Z EL a0 n0 h0 ws own bytes mx p l e R s m args below meth c sv T h k n) (pc' : Nat)  {o : Int} (hd : decode bytes pc = .ok (.goto o, 3))  (ho : 0 ≤ (pc : Int) + o) (hp : ((pc : Int) + o).toNat = pc') (K : OGo p.tables e below P T (mkF m pc' Ls st)) : OGo p.tables e below P T (mkF m pc Ls st) := og (fun _ q => XS.goto X.here X.hx rfl rfl (X.hd hd) ho hp q) K
theorem og_ifY (X : OSt Z EL a0 n0 h0 ws own bytes mx p l e R s m args below meth c sv T h k n) (pc' : Nat) {cd : ClassFile.Cond} {x : Int32} {o : Int} (hd : decode bytes pc = .ok (.ifCond cd o, 3)) (hc : ifCond.holds cd x = true) (ho : 0 ≤ (pc : Int) + o) (hp : ((pc : Int) + o).toNat = pc') (K : OGo p.tables e below P T (mkF m pc' Ls st)) : OGo p.tables e below P T (mkF m pc Ls (.int x :: st)) := og (fun _ q => XS.ifYes X.here X.hx rfl rfl (X.hd hd) rfl hc ho hp q) K
theorem og_icmpY (X : OSt Z EL a0 n0 h0 ws own bytes mx p l e R s m args below meth c sv T h k n) (pc' : Nat) {cd : ClassFile.Cond} {x y : Int32} {o : Int} (hd : decode bytes pc = .ok (.if_icmp cd o, 3)) (hc : if_icmp.holds cd x y = true) (ho : 0 ≤ (pc : Int) + o) (hp : ((pc : Int) + o).toNat = pc') (K : OGo p.tables e below P T (mkF m pc' Ls st)) : OGo p.tables e below P T (mkF m pc Ls (.int y :: .int x :: st)) := og (fun _ q => XS.icmpYes X.here X.hx rfl rfl (X.hd hd) rfl hc ho hp q) K
theorem og_nullY (X : OSt Z EL a0 n0 h0 ws own bytes mx p l e R s m args below meth c sv T h k n) (pc' : Nat)  {o : Int} (hd : decode bytes pc = .ok (.ifnull o, 3))  (ho : 0 ≤ (pc : Int) + o) (hp : ((pc : Int) + o).toNat = pc') (K : OGo p.tables e below P T (mkF m pc' Ls st)) : OGo p.tables e below P T (mkF m pc Ls (.null :: st)) := og (fun _ q => XS.ifnullYes X.here X.hx rfl rfl (X.hd hd) rfl ho hp q) K
theorem og_nonnullY (X : OSt Z EL a0 n0 h0 ws own bytes mx p l e R s m args below meth c sv T h k n) (pc' : Nat) {b : Addr} {o : Int} (hd : decode bytes pc = .ok (.ifnonnull o, 3))  (ho : 0 ≤ (pc : Int) + o) (hp : ((pc : Int) + o).toNat = pc') (K : OGo p.tables e below P T (mkF m pc' Ls st)) : OGo p.tables e below P T (mkF m pc Ls (.ref b :: st)) := og (fun _ q => XT.ifnonnullYes X.here X.hx rfl rfl (X.hd hd) rfl ho hp q) K
theorem og_acmpY (X : OSt Z EL a0 n0 h0 ws own bytes mx p l e R s m args below meth c sv T h k n) (pc' : Nat) {cd : ClassFile.ACond} {x y : Value} {o : Int} (hd : decode bytes pc = .ok (.if_acmp cd o, 3)) (hx' : x.isRef = true) (hy' : y.isRef = true) (hc : Jvm.Free.XT.acmp cd x y = true) (ho : 0 ≤ (pc : Int) + o) (hp : ((pc : Int) + o).toNat = pc') (K : OGo p.tables e below P T (mkF m pc' Ls st)) : OGo p.tables e below P T (mkF m pc Ls (y :: x :: st)) := og (fun _ q => XT.acmpYes X.here X.hx rfl rfl (X.hd hd) rfl hx' hy' hc ho hp q) K
theorem og_ifN (X : OSt Z EL a0 n0 h0 ws own bytes mx p l e R s m args below meth c sv T h k n) (pc' : Nat) {cd : ClassFile.Cond} {o : Int} {x : Int32} (hd : decode bytes pc = .ok (.ifCond cd o, 3)) (hc : ifCond.holds cd x = false) (hq : pc' = pc + 3) (K : OGo p.tables e below P T (mkF m pc' Ls st)) : OGo p.tables e below P T (mkF m pc Ls (.int x :: st)) := by
  subst hq
  exact og (fun _ q => XS.ifNo X.here X.hx rfl (X.hd hd) rfl hc q) K
theorem og_icmpN (X : OSt Z EL a0 n0 h0 ws own bytes mx p l e R s m args below meth c sv T h k n) (pc' : Nat) {cd : ClassFile.Cond} {o : Int} {x y : Int32} (hd : decode bytes pc = .ok (.if_icmp cd o, 3)) (hc : if_icmp.holds cd x y = false) (hq : pc' = pc + 3) (K : OGo p.tables e below P T (mkF m pc' Ls st)) : OGo p.tables e below P T (mkF m pc Ls (.int y :: .int x :: st)) := by
  subst hq
  exact og (fun _ q => XS.icmpNo X.here X.hx rfl (X.hd hd) rfl hc q) K
theorem og_nullN (X : OSt Z EL a0 n0 h0 ws own bytes mx p l e R s m args below meth c sv T h k n) (pc' : Nat) {o : Int} {b : Addr} (hd : decode bytes pc = .ok (.ifnull o, 3))  (hq : pc' = pc + 3) (K : OGo p.tables e below P T (mkF m pc' Ls st)) : OGo p.tables e below P T (mkF m pc Ls (.ref b :: st)) := by
  subst hq
  exact og (fun _ q => XS.ifnullNo X.here X.hx rfl (X.hd hd) rfl q) K
theorem og_nonnullN (X : OSt Z EL a0 n0 h0 ws own bytes mx p l e R s m args below meth c sv T h k n) (pc' : Nat) {o : Int} (hd : decode bytes pc = .ok (.ifnonnull o, 3))  (hq : pc' = pc + 3) (K : OGo p.tables e below P T (mkF m pc' Ls st)) : OGo p.tables e below P T (mkF m pc Ls (.null :: st)) := by
  subst hq
  exact og (fun _ q => XT.ifnonnullNo X.here X.hx rfl (X.hd hd) rfl q) K
theorem og_acmpN (X : OSt Z EL a0 n0 h0 ws own bytes mx p l e R s m args below meth c sv T h k n) (pc' : Nat) {cd : ClassFile.ACond} {o : Int} {x y : Value} (hd : decode bytes pc = .ok (.if_acmp cd o, 3)) (hx' : x.isRef = true) (hy' : y.isRef = true) (hc : Jvm.Free.XT.acmp cd x y = false) (hq : pc' = pc + 3) (K : OGo p.tables e below P T (mkF m pc' Ls st)) : OGo p.tables e below P T (mkF m pc Ls (y :: x :: st)) := by
  subst hq
  exact og (fun _ q => XT.acmpNo X.here X.hx rfl (X.hd hd) rfl hx' hy' hc q) K
theorem own_nc8 (y : Int32) : nar .char (y &&& 255) = y &&& 255 := i2c_mask y
theorem own_u16 (u : UInt16) : (u.toUInt32.toInt32).toInt = u.toNat := by
  have hu := u.toNat_lt
  show ((u.toUInt32).toBitVec).toInt = _
  have hm : (u.toUInt32).toBitVec.toNat = u.toNat := by
    show (u.toUInt32).toNat = _
    simp
  rw [BitVec.toInt_eq_toNat_cond, hm, if_pos (by omega)]
theorem own_ncc (y : Int32) : nar .char (y.toUInt32.toUInt16.toUInt32.toInt32) = y.toUInt32.toUInt16.toUInt32.toInt32 := by
  have e : (y.toUInt32.toUInt16.toUInt32.toInt32).toUInt32.toUInt16 = y.toUInt32.toUInt16 := UInt16.toUInt16_toUInt32 _
  show ((y.toUInt32.toUInt16.toUInt32.toInt32).toUInt32.toUInt16).toUInt32.toInt32 = _
  rw [e]
theorem own_lat16 (y : Int32) : ¬ y.toUInt32.toUInt16.toUInt32.toInt32 < 0 ∧ ¬ (65535 : Int32) < y.toUInt32.toUInt16.toUInt32.toInt32 := by
  have h2 := (y.toUInt32.toUInt16).toNat_lt
  have e1 : (0 : Int32).toInt = 0 := (by decide)
  have e2 : (65535 : Int32).toInt = 65535 := (by decide)
  rw [Int32.lt_iff_toInt_lt, Int32.lt_iff_toInt_lt, own_u16, e1, e2]
  omega
theorem own_lat8 (x : Int32) : ¬ (x &&& 255) < 0 ∧ ¬ (255 : Int32) < (x &&& 255) := by
  have t : ∀ k : Fin 256, ¬ (Int32.ofNat k.val) < 0 ∧ ¬ (255 : Int32) < (Int32.ofNat k.val) := by decide +kernel
  have h : (x &&& 255).toBitVec.toNat < 256 := by
    simp only [Int32.toBitVec_and, BitVec.toNat_and]
    exact Nat.lt_succ_of_le Nat.and_le_right
  have e : (x &&& 255) = Int32.ofNat (x &&& 255).toBitVec.toNat := by
    apply Int32.toBitVec_inj.mp
    show _ = BitVec.ofNat 32 _
    rw [BitVec.ofNat_toNat]; simp
  rw [e]
  exact t ⟨_, h⟩
theorem own_up8 {c : Int32} (h : ¬ (255 : Int32) < c) : ¬ (65535 : Int32) < c := fun q => h (by rw [Int32.lt_iff_toInt_lt] at q ⊢; have e1 : (65535 : Int32).toInt = 65535 := rfl; have e2 : (255 : Int32).toInt = 255 := rfl; omega)
def own_stv (Z : State) (C n d : String) : Value := ((Term.static C n d).eval #[] Z none [] Z).getD .null
def own_sti (Z : State) (C n d : String) : Int32 := match (Term.static C n d).eval #[] Z none [] Z with | some (.int z) => z | _ => 0
theorem own_stv_of {Z : State} {C n d : String} {v : Value} {a : Array Value} (h : (Term.static C n d).eval a Z none [] Z = some v) : own_stv Z C n d = v := by
  have q : (Term.static C n d).eval #[] Z none [] Z = some v := h
  simp [own_stv, q]
theorem own_sti_of {Z : State} {C n d : String} {v : Int32} {a : Array Value} (h : (Term.static C n d).eval a Z none [] Z = some (.int v)) : own_sti Z C n d = v := by
  have q : (Term.static C n d).eval #[] Z none [] Z = some (.int v) := h
  simp [own_sti, q]
theorem own_l0 {P : Int32 → Prop} : ∀ c ∈ ([] : List Int32), P c := fun _ q => nomatch q
theorem own_lS {P : Int32 → Prop} {y : Int32} {M : List Int32} (q : P y) (r : ∀ x ∈ M, P x) : ∀ x ∈ y :: M, P x := fun x z => (List.mem_cons.mp z).elim (fun u => u ▸ q) (r x)
def own_N (x : Int32) : Nat := x.toBitVec.toNat
theorem own_N_lt (x : Int32) : own_N x < 4294967296 := x.toBitVec.isLt
theorem own_N_inj {x y : Int32} : own_N x = own_N y ↔ x = y := ⟨fun h => Int32.toBitVec_inj.mp (BitVec.eq_of_toNat_eq h), fun h => by rw [h]⟩
theorem own_N_and {x m : Int32} (k : Nat) (hm : m.toBitVec.toNat = 2 ^ k - 1) : own_N (x &&& m) = own_N x % 2 ^ k := by
  unfold own_N; rw [Int32.toBitVec_and, BitVec.toNat_and, hm, Nat.and_two_pow_sub_one_eq_mod]
theorem own_N_ushr {x j : Int32} (k : Nat) (hj : (j &&& 31).toUInt32.toNat = k) (hk : k < 32) : own_N (XT.ushr x j) = own_N x / 2 ^ k := by
  show (x.toUInt32 >>> (j &&& 31).toUInt32).toNat = x.toUInt32.toNat / 2 ^ k
  rw [UInt32.toNat_shiftRight, hj, Nat.mod_eq_of_lt hk, Nat.shiftRight_eq_div_pow]
theorem own_N3 (x : Int32) : own_N (x &&& 3) = own_N x % 4 := own_N_and 2 rfl
theorem own_N255 (x : Int32) : own_N (x &&& 255) = own_N x % 256 := own_N_and 8 rfl
theorem own_nbb (y : Int32) : (y.toInt8.toInt32).toInt8.toInt32 = y.toInt8.toInt32 := by simp
theorem own_zb {z : Int32} (h : z = 0 ∨ z = 1) : narrow .boolean (.int z) = .int z ∧ fits .boolean (.int z) = true := by rcases h with rfl | rfl <;> exact ⟨rfl, rfl⟩
theorem own_xor0 {a b : Int32} : a ^^^ b = 0 ↔ a = b := by
  rw [← Int32.toBitVec_inj, ← Int32.toBitVec_inj, Int32.toBitVec_xor]
  exact BitVec.xor_eq_zero_iff
theorem own_xor_ushr_and (x y j k : Int32) : XT.ushr (x ^^^ y) j &&& k = (XT.ushr x j &&& k) ^^^ (XT.ushr y j &&& k) := by
  apply Int32.toBitVec_inj.mp
  show ((x ^^^ y).toUInt32 >>> (j &&& 31).toUInt32).toBitVec &&& k.toBitVec = ((x.toUInt32 >>> (j &&& 31).toUInt32).toBitVec &&& k.toBitVec) ^^^ ((y.toUInt32 >>> (j &&& 31).toUInt32).toBitVec &&& k.toBitVec)
  have e : (x ^^^ y).toUInt32 = x.toUInt32 ^^^ y.toUInt32 := rfl
  rw [e, UInt32.toBitVec_shiftRight, UInt32.toBitVec_shiftRight, UInt32.toBitVec_shiftRight, UInt32.toBitVec_xor]
  ext i hi
  simp [Bool.and_xor_distrib_right]
theorem own_nch {c : Int32} (h0 : ¬ c < 0) (h1 : ¬ (65535 : Int32) < c) : nar .char c = c := by
  rw [Int32.lt_iff_toInt_lt] at h0 h1
  have e0 : (0 : Int32).toInt = 0 := rfl
  have e1 : (65535 : Int32).toInt = 65535 := rfl
  rw [e0] at h0; rw [e1] at h1
  have hn : c.toUInt32.toNat = c.toInt.toNat := by
    have : c.toInt = (c.toBitVec).toInt := rfl
    have h2 : (c.toBitVec).toInt = if 2 * c.toBitVec.toNat < 2 ^ 32 then (c.toBitVec.toNat : Int) else (c.toBitVec.toNat : Int) - 2 ^ 32 := BitVec.toInt_eq_toNat_cond _
    have h3 : c.toUInt32.toNat = c.toBitVec.toNat := rfl
    have := c.toBitVec.isLt
    split at h2 <;> omega
  apply Int32.toInt_inj.mp
  show (c.toUInt32.toUInt16.toUInt32.toInt32).toInt = _
  rw [own_u16]
  show ((c.toUInt32.toUInt16.toNat : Nat) : Int) = _
  have h4 : c.toUInt32.toUInt16.toNat = c.toUInt32.toNat % 65536 := by simp
  rw [h4, hn]; omega
theorem own_fitC {c : Int32} (h0 : ¬ c < 0) (h1 : ¬ (65535 : Int32) < c) : narrow .char (.int c) = .int c := by
  show Value.int (nar .char c) = _
  rw [own_nch h0 h1]
theorem own_lc {x : Int64} (h1 : ¬ x < -128) (h2 : ¬ 127 < x) : ¬ (x.toInt32 + 128) < 0 ∧ (x.toInt32 + 128) < 256 ∧ ((x.toInt32 + 128) - 128).toInt64 = x := by
  rw [Int64.lt_iff_toInt_lt] at h1 h2
  have e1 : (-128 : Int64).toInt = -128 := rfl
  have e2 : (127 : Int64).toInt = 127 := rfl
  rw [e1] at h1; rw [e2] at h2
  have hx : x.toInt32.toInt = x.toInt := by rw [Int64.toInt_toInt32]; exact Int.bmod_eq_of_le (by omega) (by omega)
  have hs : (x.toInt32 + 128).toInt = x.toInt + 128 := by
    rw [Int32.toInt_add, hx]; show (x.toInt + 128).bmod _ = _; exact Int.bmod_eq_of_le (by omega) (by omega)
  refine ⟨?_, ?_, ?_⟩
  · rw [Int32.lt_iff_toInt_lt, hs]; show ¬ _ < (0 : Int); omega
  · rw [Int32.lt_iff_toInt_lt, hs]; show _ < (256 : Int); omega
  · apply Int64.toInt_inj.mp
    rw [Int32.toInt_toInt64, Int32.toInt_sub, hs]
    show (x.toInt + 128 - 128).bmod _ = _
    rw [show x.toInt + 128 - 128 = x.toInt by omega]
    exact Int.bmod_eq_of_le (by omega) (by omega)
theorem own_and3 (y : Int32) : y &&& 3 = 0 ∨ y &&& 3 = 1 ∨ y &&& 3 = 2 ∨ y &&& 3 = 3 := by
  have c0 : own_N 0 = 0 := rfl
  have c1 : own_N 1 = 1 := rfl
  have c2 : own_N 2 = 2 := rfl
  have c3 : own_N 3 = 3 := rfl
  simp only [← own_N_inj, own_N3, c0, c1, c2, c3]
  omega
def own_sta (Z : State) (C n d : String) : Addr := match own_stv Z C n d with | .ref a => a | _ => 0
theorem own_sta_of {Z : State} {C n d : String} {v : Addr} {a : Array Value} (h : (Term.static C n d).eval a Z none [] Z = some (.ref v)) : own_sta Z C n d = v := by
  unfold own_sta; rw [own_stv_of h]
theorem own_new (X : OSt Z EL a0 n0 h0 ws own bytes mx p l e R s m args below meth c sv T h k n) (pc' : Nat) {C : String} {index z : Nat} (hd : decode bytes pc = .ok (.new index, 3)) (w : (Cond.classLink own index C).before a0 Z = true) (wi : (Cond.instantiable C z).before a0 Z = true) (wz : (Cond.initialized C).before a0 Z = true) (hc : k + 1 ≤ R.cells) (hl : n + z ≤ R.slots) (hq : pc' = pc + 3)
    (K : ∀ (T' : State) (h' : Heap) (b : Addr), OSt Z EL a0 n0 h0 ws own bytes mx p l e R s m args below meth c (b :: sv) T' h' (k + 1) (n + z) → Keep h h' [] → h.size ≤ b → b < h'.size → Exa Z h' b C → (∀ {O nm d : String} {ty : FieldType}, Laid Z a0 C O nm d → parseFieldDescriptor d = some ty → Fld Z h' b O nm d (defaultValue ty)) → OGo p.tables e below P T' (mkF m pc' Ls (.ref b :: st))) : OGo p.tables e below P T (mkF m pc Ls st) := by
  subst hq
  obtain ⟨hx, hby, hml, eT, hlk, vm0, locs, Y, I⟩ := X
  obtain ⟨T', h', Y', e', E, A, D, -, stp⟩ := newO Y hx (show Z.Warmed39 (s.setVm vm0).vm from I.2.2.2.2.1) (show (s.setVm vm0).vm.findClass own = _ from I.2.2.2.2.2.1) w wi wz eT (g := mkF m pc Ls st) rfl (hb hby hd) hc hl
  exact og stp (K T' h' h.size ⟨hx, hby, hml, e', hlk, vm0, locs, Y', I.new E (Nat.le_refl _) A.lt⟩ ((Keep.refl _ _).ext E) (Nat.le_refl _) A.lt A D)
theorem own_arr (X : OSt Z EL a0 n0 h0 ws own bytes mx p l e R s m args below meth c sv T h k n) (pc' : Nat) {aty : ArrayType} {z : Int32} (hd : decode bytes pc = .ok (.newarray aty, 2)) (w : (Cond.arrayClass (newarray.typeOf aty)).before a0 Z = true) (hz : ¬ z < 0) {cap : Nat} (hcap : z.toNatClampNeg = cap) (hbig : cap * 8 ≤ 536870912) (hc : k + 1 ≤ R.cells) (hl : n + cap ≤ R.slots) (hq : pc' = pc + 2)
    (K : ∀ (T' : State) (h' : Heap) (b : Addr) (kb : ClassId), OSt Z EL a0 n0 h0 ws own bytes mx p l e R s m args below meth c (b :: sv) T' h' (k + 1) (n + cap) → Keep h h' [] → h.size ≤ b → b < h'.size → Arv Z h' b kb (newarray.typeOf aty) z (List.replicate cap (defaultValue (newarray.typeOf aty))) (defaultValue (newarray.typeOf aty)) → OGo p.tables e below P T' (mkF m pc' Ls (.ref b :: st))) : OGo p.tables e below P T (mkF m pc Ls (.int z :: st)) := by
  subst hq
  obtain ⟨hx, hby, hml, eT, hlk, vm0, locs, Y, I⟩ := X
  obtain ⟨T', h', kb, Y', e', E, A, stp⟩ := newP Y hx (show Z.Warmed39 (s.setVm vm0).vm from I.2.2.2.2.1) w eT (g := mkF m pc Ls (.int z :: st)) rfl (hb hby hd) rfl hz (cap := cap) (Nat.le_of_eq hcap) hbig hc hl
  have V := (Arv.new A hz).pad (pad_rep [] (defaultValue (newarray.typeOf aty)) cap)
  rw [List.nil_append] at V
  exact og stp (K T' h' h.size kb ⟨hx, hby, hml, e', hlk, vm0, locs, Y', I.new E (Nat.le_refl _) A.lt⟩ ((Keep.refl _ _).ext E) (Nat.le_refl _) A.lt V)
theorem own_anew (X : OSt Z EL a0 n0 h0 ws own bytes mx p l e R s m args below meth c sv T h k n) (pc' : Nat) {C : String} {index : Nat} {z : Int32} (hd : decode bytes pc = .ok (.anewarray index, 3)) (w : (Cond.classLink own index C).before a0 Z = true) (w2 : (Cond.arrayOver (.object C)).before a0 Z = true) (hz : ¬ z < 0) {cap : Nat} (hcap : z.toNatClampNeg = cap) (hbig : cap * 8 ≤ 536870912) (hc : k + 1 ≤ R.cells) (hl : n + cap ≤ R.slots) (hq : pc' = pc + 3)
    (K : ∀ (T' : State) (h' : Heap) (b : Addr) (kb : ClassId), OSt Z EL a0 n0 h0 ws own bytes mx p l e R s m args below meth c (b :: sv) T' h' (k + 1) (n + cap) → Keep h h' [] → h.size ≤ b → b < h'.size → Arv Z h' b kb (.object C) z (List.replicate cap .null) .null → Ovr Z kb C → OGo p.tables e below P T' (mkF m pc' Ls (.ref b :: st))) : OGo p.tables e below P T (mkF m pc Ls (.int z :: st)) := by
  subst hq
  obtain ⟨hx, hby, hml, eT, hlk, vm0, locs, Y, I⟩ := X
  obtain ⟨T', h', kb, Y', e', E, A, O, stp⟩ := newR Y hx (show Z.Warmed39 (s.setVm vm0).vm from I.2.2.2.2.1) (show (s.setVm vm0).vm.findClass own = _ from I.2.2.2.2.2.1) w w2 eT (g := mkF m pc Ls (.int z :: st)) rfl (hb hby hd) rfl hz (cap := cap) (Nat.le_of_eq hcap) hbig hc hl
  have V := (Arv.new A hz).pad (pad_rep [] (defaultValue (.object C)) cap)
  rw [List.nil_append] at V
  exact og stp (K T' h' h.size kb ⟨hx, hby, hml, e', hlk, vm0, locs, Y', I.new E (Nat.le_refl _) A.lt⟩ ((Keep.refl _ _).ext E) (Nat.le_refl _) A.lt V O)
theorem own_put (X : OSt Z EL a0 n0 h0 ws own bytes mx p l e R s m args below meth c sv T h k n) (pc' : Nat) {R0 O nm d host C : String} {index kk : Nat} {ty : FieldType} {a : Addr} {v old : Value} (hd : decode bytes pc = .ok (.putfield index, 3)) (w : (Cond.fieldLink own index R0 nm d).before a0 Z = true ∨ (Cond.fieldLinkNest own index R0 nm d host).before a0 Z = true) (via : Via Z R0 O nm d)
    (F : Fld Z h a O nm d old) (E : Exa Z h a C) (L : (Cond.lays C O nm d).before a0 Z = true ∨ ((Cond.laysFinal C O nm d).before a0 Z = true ∧ own = O ∧ meth.name = "<init>")) (wi : (Cond.instantiable C kk).before a0 Z = true) (hty : parseFieldDescriptor d = some ty) (hn : narrow ty v = v) (hf : fits ty v = true) (ha : a ∈ sv) (hq : pc' = pc + 3)
    (K : ∀ (T' : State) (h' : Heap), OSt Z EL a0 n0 h0 ws own bytes mx p l e R s m args below meth c sv T' h' k n → Wr h h' a (RoadKit.slotOf Z O nm d) v → Keep h h' [a] → Fld Z h' a O nm d v → OGo p.tables e below P T' (mkF m pc' Ls st)) : OGo p.tables e below P T (mkF m pc Ls (v :: .ref a :: st)) := by
  subst hq
  obtain ⟨hx, hby, hml, eT, hlk, vm0, locs, Y, I⟩ := X
  obtain ⟨T', h', Y', e', W, stp⟩ := putF Y hx (show Z.Warmed39 (s.setVm vm0).vm from I.2.2.2.2.1) (show (s.setVm vm0).vm.findClass own = _ from I.2.2.2.2.2.1) w via eT F E L wi hty hn hf (g := mkF m pc Ls (v :: .ref a :: st)) rfl rfl (hb hby hd)
  exact og stp (K T' h' ⟨hx, hby, hml, e', hlk, vm0, _, Y', I.wr ha W⟩ W (Keep.of_wr W) (F.same W))
theorem own_get (X : OSt Z EL a0 n0 h0 ws own bytes mx p l e R s m args below meth c sv T h k n) (pc' : Nat) {R0 O nm d host : String} {index : Nat} {a : Addr} {v : Value} (hd : decode bytes pc = .ok (.getfield index, 3)) (w : (Cond.fieldLink own index R0 nm d).before a0 Z = true ∨ (Cond.fieldLinkNest own index R0 nm d host).before a0 Z = true) (via : Via Z R0 O nm d) (F : Fld Z h a O nm d v) (hq : pc' = pc + 3)
    (K : ∀ (T' : State), OSt Z EL a0 n0 h0 ws own bytes mx p l e R s m args below meth c sv T' h k n → OGo p.tables e below P T' (mkF m pc' Ls (v :: st))) : OGo p.tables e below P T (mkF m pc Ls (.ref a :: st)) := by
  subst hq
  obtain ⟨hx, hby, hml, eT, hlk, vm0, locs, Y, I⟩ := X
  obtain ⟨T', Y', e', stp⟩ := getF Y hx (show Z.Warmed39 (s.setVm vm0).vm from I.2.2.2.2.1) (show (s.setVm vm0).vm.findClass own = _ from I.2.2.2.2.2.1) w via eT F (g := mkF m pc Ls (.ref a :: st)) rfl rfl (hb hby hd)
  exact og stp (K T' ⟨hx, hby, hml, e', hlk, vm0, _, Y', I⟩)
theorem own_getS (X : OSt Z EL a0 n0 h0 ws own bytes mx p l e R s m args below meth c sv T h k n) (pc' : Nat) {R0 O nm d host : String} {index : Nat} {v : Value} (hd : decode bytes pc = .ok (.getstatic index, 3)) (w : (Cond.fieldLink own index R0 nm d).before a0 Z = true ∨ (Cond.fieldLinkNest own index R0 nm d host).before a0 Z = true) (via : Via Z R0 O nm d) (F : Sta Z Z.heap O nm d v) (hq : pc' = pc + 3)
    (K : ∀ (T' : State), OSt Z EL a0 n0 h0 ws own bytes mx p l e R s m args below meth c sv T' h k n → OGo p.tables e below P T' (mkF m pc' Ls (v :: st))) : OGo p.tables e below P T (mkF m pc Ls st) := by
  subst hq
  have O1 := X.old
  obtain ⟨hx, hby, hml, eT, hlk, vm0, locs, Y, I⟩ := X
  obtain ⟨T', Y', e', stp⟩ := getS2 Y hx (show Z.Warmed39 (s.setVm vm0).vm from I.2.2.2.2.1) (show (s.setVm vm0).vm.findClass own = _ from I.2.2.2.2.2.1) w via eT (F.ext O1.2) (g := mkF m pc Ls st) rfl (hb hby hd)
  exact og stp (K T' ⟨hx, hby, hml, e', hlk, vm0, _, Y', I⟩)
theorem own_cast (X : OSt Z EL a0 n0 h0 ws own bytes mx p l e R s m args below meth c sv T h k n) (pc' : Nat) {C : String} {index : Nat} {a : Addr} (hd : decode bytes pc = .ok (.checkcast index, 3)) (w : (Cond.classLink own index C).before a0 Z = true) (F : Ins Z h a C true) (hq : pc' = pc + 3)
    (K : ∀ (T' : State), OSt Z EL a0 n0 h0 ws own bytes mx p l e R s m args below meth c sv T' h k n → OGo p.tables e below P T' (mkF m pc' Ls (.ref a :: st))) : OGo p.tables e below P T (mkF m pc Ls (.ref a :: st)) := by
  subst hq
  obtain ⟨hx, hby, hml, eT, hlk, vm0, locs, Y, I⟩ := X
  obtain ⟨T', Y', e', stp⟩ := castY Y hx (show Z.Warmed39 (s.setVm vm0).vm from I.2.2.2.2.1) (show (s.setVm vm0).vm.findClass own = _ from I.2.2.2.2.2.1) w eT F (g := mkF m pc Ls (.ref a :: st)) rfl rfl (hb hby hd)
  exact og stp (K T' ⟨hx, hby, hml, e', hlk, vm0, _, Y', I⟩)
theorem own_instY (X : OSt Z EL a0 n0 h0 ws own bytes mx p l e R s m args below meth c sv T h k n) (pc' : Nat) {C : String} {index : Nat} {a : Addr} (hd : decode bytes pc = .ok (.instanceof index, 3)) (w : (Cond.classLink own index C).before a0 Z = true) (F : Ins Z h a C true) (hq : pc' = pc + 3)
    (K : ∀ (T' : State), OSt Z EL a0 n0 h0 ws own bytes mx p l e R s m args below meth c sv T' h k n → OGo p.tables e below P T' (mkF m pc' Ls (.int 1 :: st))) : OGo p.tables e below P T (mkF m pc Ls (.ref a :: st)) := by
  subst hq
  obtain ⟨hx, hby, hml, eT, hlk, vm0, locs, Y, I⟩ := X
  obtain ⟨T', Y', e', stp⟩ := instY Y hx (show Z.Warmed39 (s.setVm vm0).vm from I.2.2.2.2.1) (show (s.setVm vm0).vm.findClass own = _ from I.2.2.2.2.2.1) w eT F (g := mkF m pc Ls (.ref a :: st)) rfl rfl (hb hby hd)
  exact og stp (K T' ⟨hx, hby, hml, e', hlk, vm0, _, Y', I⟩)
theorem own_instN (X : OSt Z EL a0 n0 h0 ws own bytes mx p l e R s m args below meth c sv T h k n) (pc' : Nat) {C C' : String} {index : Nat} {a : Addr} (hd : decode bytes pc = .ok (.instanceof index, 3)) (w : (Cond.classLink own index C).before a0 Z = true) (F : Ins Z h0 a C false) (E : Exa Z h0 a C') (hq : pc' = pc + 3)
    (K : ∀ (T' : State), OSt Z EL a0 n0 h0 ws own bytes mx p l e R s m args below meth c sv T' h k n → OGo p.tables e below P T' (mkF m pc' Ls (.int 0 :: st))) : OGo p.tables e below P T (mkF m pc Ls (.ref a :: st)) := by
  subst hq
  obtain ⟨hx, hby, hml, eT, hlk, vm0, locs, Y, I⟩ := X
  have e0 : (s.setVm vm0).heap = h0 := I.1
  obtain ⟨T', Y', e', stp⟩ := instN Y hx (show Z.Warmed39 (s.setVm vm0).vm from I.2.2.2.2.1) (show (s.setVm vm0).vm.findClass own = _ from I.2.2.2.2.2.1) w eT (by rw [e0]; exact F) (by rw [e0]; exact E) (g := mkF m pc Ls (.ref a :: st)) rfl rfl (hb hby hd)
  exact og stp (K T' ⟨hx, hby, hml, e', hlk, vm0, _, Y', I⟩)
theorem own_obj0 (X : OSt Z EL a0 n0 h0 ws own bytes mx p l e R s m args below meth c sv T h k n) (pc' : Nat) {index : Nat} {a : Addr} (hd : decode bytes pc = .ok (.invokespecial index, 3)) (w1 : (Cond.methodLink own index Lib.objectInit).before a0 Z = true) (w2 : (Cond.instanceMethod Lib.objectInit).before a0 Z = true) (w3 : (Cond.code Lib.objectInit ⟨#[0xb1]⟩ 1 none).before a0 Z = true) (hsz : Ls.size = mx) {W : Nat} (hW : (st.map fun v => v.category).sum = W) (hf : 1 ≤ R.frames) (hl : W + 12 ≤ R.locals) (hq : pc' = pc + 3)
    (K : ∀ (T' : State), OSt Z EL a0 n0 h0 ws own bytes mx p l e R s m args below meth c sv T' h k n → OGo p.tables e below P T' (mkF m pc' Ls st)) : OGo p.tables e below P T (mkF m pc Ls (.ref a :: st)) := by
  subst hq
  obtain ⟨hx, hby, hml, eT, hlk, vm0, locs, Y, I⟩ := X
  obtain ⟨T', Y', e', stp⟩ := initO Y hx (show Z.Warmed39 (s.setVm vm0).vm from I.2.2.2.2.1) (show (s.setVm vm0).vm.findClass own = _ from I.2.2.2.2.2.1) w1 w2 w3 eT (g := mkF m pc Ls (.ref a :: st)) rfl (by rw [hml]; exact hsz) rfl (hb hby hd) hf (W := W) (by show 2 * 0 + _ ≤ _; rw [hW]; omega) hl
  exact og stp (K T' ⟨hx, hby, hml, e', hlk, vm0, _, Y', I⟩)
theorem own_inb {cl : Cell} {z j : Int32} (S : cl.slots.size = z.toNatClampNeg) (h1 : ¬ j < 0) (h2 : j < z) : ¬ (j < 0 ∨ cl.slots.size ≤ j.toNatClampNeg) := inb_of S ⟨h1, h2⟩
theorem own_stC (X : OSt Z EL a0 n0 h0 ws own bytes mx p l e R s m args below meth c sv T h k n) (pc' : Nat) {a : Addr} {kb : ClassId} {z j x x' : Int32} {vs : List Value} {dv : Value} (hd : decode bytes pc = .ok (.castore, 1)) (A : Arv Z h a kb .char z vs dv) (hx' : nar .char x = x') (h1 : ¬ j < 0) (h2 : j < z) {i : Nat} (hi : j.toNatClampNeg = i) (hl : i < vs.length) (ha : a ∈ sv) (hq : pc' = pc + 1)
    (K : ∀ (T' : State) (h' : Heap), OSt Z EL a0 n0 h0 ws own bytes mx p l e R s m args below meth c sv T' h' k n → Wr h h' a j.toNatClampNeg (.int x') → Keep h h' [a] → Arv Z h' a kb .char z (vs.set i (.int x')) dv → OGo p.tables e below P T' (mkF m pc' Ls st)) : OGo p.tables e below P T (mkF m pc Ls (.int x :: .int j :: .ref a :: st)) := by
  subst hq hx'
  obtain ⟨hx, hby, hml, eT, hlk, vm0, locs, Y, I⟩ := X
  obtain ⟨cl, Ar, q, S, N, Hs, G⟩ := A
  obtain ⟨T', h', Y', e', W, stp⟩ := stC Y hx (show Z.Warmed39 (s.setVm vm0).vm from I.2.2.2.2.1) eT Ar (j := j) (x := x) (own_inb S h1 h2) (g := mkF m pc Ls (.int x :: .int j :: .ref a :: st)) rfl rfl (hb hby hd)
  exact og stp (K T' h' ⟨hx, hby, hml, e', hlk, vm0, _, Y', I.wr ha W⟩ W (Keep.of_wr W) (Arv.set Ar q S N Hs G (fits_nar_char _) W i hi hl))
theorem own_stB (X : OSt Z EL a0 n0 h0 ws own bytes mx p l e R s m args below meth c sv T h k n) (pc' : Nat) {a : Addr} {kb : ClassId} {z j x x' : Int32} {vs : List Value} {dv : Value} (hd : decode bytes pc = .ok (.bastore, 1)) (A : Arv Z h a kb .byte z vs dv) (hx' : x.toInt8.toInt32 = x') (h1 : ¬ j < 0) (h2 : j < z) {i : Nat} (hi : j.toNatClampNeg = i) (hl : i < vs.length) (ha : a ∈ sv) (hq : pc' = pc + 1)
    (K : ∀ (T' : State) (h' : Heap), OSt Z EL a0 n0 h0 ws own bytes mx p l e R s m args below meth c sv T' h' k n → Wr h h' a j.toNatClampNeg (.int x') → Keep h h' [a] → Arv Z h' a kb .byte z (vs.set i (.int x')) dv → OGo p.tables e below P T' (mkF m pc' Ls st)) : OGo p.tables e below P T (mkF m pc Ls (.int x :: .int j :: .ref a :: st)) := by
  subst hq hx'
  obtain ⟨hx, hby, hml, eT, hlk, vm0, locs, Y, I⟩ := X
  obtain ⟨cl, Ar, q, S, N, Hs, G⟩ := A
  obtain ⟨T', h', Y', e', W, stp⟩ := stB Y hx (show Z.Warmed39 (s.setVm vm0).vm from I.2.2.2.2.1) eT Ar (j := j) (x := x) (own_inb S h1 h2) (g := mkF m pc Ls (.int x :: .int j :: .ref a :: st)) rfl rfl (hb hby hd)
  exact og stp (K T' h' ⟨hx, hby, hml, e', hlk, vm0, _, Y', I.wr ha W⟩ W (Keep.of_wr W) (Arv.set Ar q S N Hs G (fits_nar_byte _) W i hi hl))
theorem own_stR (X : OSt Z EL a0 n0 h0 ws own bytes mx p l e R s m args below meth c sv T h k n) (pc' : Nat) {a : Addr} {kb : ClassId} {ty : FieldType} {z j : Int32} {v : Value} {vs : List Value} {dv : Value} (hd : decode bytes pc = .ok (.aastore, 1)) (A : Arv Z h a kb ty z vs dv) (hty : ty.isReference = true) (hf : fits ty v = true) (F : Sto Z h a v) (h1 : ¬ j < 0) (h2 : j < z) {i : Nat} (hi : j.toNatClampNeg = i) (hl : i < vs.length) (ha : a ∈ sv) (hq : pc' = pc + 1)
    (K : ∀ (T' : State) (h' : Heap), OSt Z EL a0 n0 h0 ws own bytes mx p l e R s m args below meth c sv T' h' k n → Wr h h' a j.toNatClampNeg v → Keep h h' [a] → Arv Z h' a kb ty z (vs.set i v) dv → OGo p.tables e below P T' (mkF m pc' Ls st)) : OGo p.tables e below P T (mkF m pc Ls (v :: .int j :: .ref a :: st)) := by
  subst hq
  obtain ⟨hx, hby, hml, eT, hlk, vm0, locs, Y, I⟩ := X
  obtain ⟨cl, Ar, q, S, N, Hs, G⟩ := A
  obtain ⟨T', h', Y', e', W, stp⟩ := stR Y hx (show Z.Warmed39 (s.setVm vm0).vm from I.2.2.2.2.1) eT Ar (j := j) (v := v) (own_inb S h1 h2) hty F (g := mkF m pc Ls (v :: .int j :: .ref a :: st)) rfl rfl (hb hby hd)
  exact og stp (K T' h' ⟨hx, hby, hml, e', hlk, vm0, _, Y', I.wr ha W⟩ W (Keep.of_wr W) (Arv.set Ar q S N Hs G hf W i hi hl))
theorem own_len (X : OSt Z EL a0 n0 h0 ws own bytes mx p l e R s m args below meth c sv T h k n) (pc' : Nat) {a : Addr} {kb : ClassId} {ty : FieldType} {z : Int32} {vs : List Value} {dv : Value} (hd : decode bytes pc = .ok (.arraylength, 1)) (A : Arv Z h a kb ty z vs dv) (hq : pc' = pc + 1) (K : OGo p.tables e below P T (mkF m pc' Ls (.int z :: st))) : OGo p.tables e below P T (mkF m pc Ls (.ref a :: st)) := by
  subst hq
  obtain ⟨hx, hby, hml, eT, hlk, vm0, locs, Y, I⟩ := X
  obtain ⟨cl, Ar, q, S, N, Hs, G⟩ := A
  refine og (fun _ r => Y.arraylength hx (by rw [eT]; exact Ar.1) (State.isArrayOf_alike (show Z.Warmed39 (s.setVm vm0).vm from I.2.2.2.2.1).alike Ar.2.1) (g := mkF m pc Ls (.ref a :: st)) rfl rfl (hb hby hd) _ r) ?_
  rw [len_of S N]; exact K
theorem own_ldC (X : OSt Z EL a0 n0 h0 ws own bytes mx p l e R s m args below meth c sv T h k n) (pc' : Nat) {a : Addr} {kb : ClassId} {z j : Int32} {v : Value} {vs : List Value} {dv : Value} (hd : decode bytes pc = .ok (.caload, 1)) (A : Arv Z h a kb .char z vs dv) (h1 : ¬ j < 0) (h2 : j < z) (hv : vs.getD j.toNatClampNeg dv = v) (hq : pc' = pc + 1) (K : OGo p.tables e below P T (mkF m pc' Ls (v :: st))) : OGo p.tables e below P T (mkF m pc Ls (.int j :: .ref a :: st)) := by
  subst hq
  obtain ⟨hx, hby, hml, eT, hlk, vm0, locs, Y, I⟩ := X
  obtain ⟨cl, Ar, q, S, N, Hs, G⟩ := A
  exact og (fun _ r => Y.caload hx (j := j) (v := v) (by rw [eT]; exact Ar.1) (State.isArrayOf_alike (show Z.Warmed39 (s.setVm vm0).vm from I.2.2.2.2.1).alike Ar.2.1) Ar.2.2 (own_inb S h1 h2) (Hs.at (own_inb S h1 h2) hv) (g := mkF m pc Ls (.int j :: .ref a :: st)) rfl rfl (hb hby hd) _ r) K
theorem own_ldB (X : OSt Z EL a0 n0 h0 ws own bytes mx p l e R s m args below meth c sv T h k n) (pc' : Nat) {a : Addr} {kb : ClassId} {z j : Int32} {v : Value} {vs : List Value} {dv : Value} (hd : decode bytes pc = .ok (.baload, 1)) (A : Arv Z h a kb .byte z vs dv) (h1 : ¬ j < 0) (h2 : j < z) (hv : vs.getD j.toNatClampNeg dv = v) (hq : pc' = pc + 1) (K : OGo p.tables e below P T (mkF m pc' Ls (v :: st))) : OGo p.tables e below P T (mkF m pc Ls (.int j :: .ref a :: st)) := by
  subst hq
  obtain ⟨hx, hby, hml, eT, hlk, vm0, locs, Y, I⟩ := X
  obtain ⟨cl, Ar, q, S, N, Hs, G⟩ := A
  exact og (fun _ r => Y.baloadBytes hx (j := j) (v := v) (by rw [eT]; exact Ar.1) (State.isArrayOf_alike (show Z.Warmed39 (s.setVm vm0).vm from I.2.2.2.2.1).alike Ar.2.1) Ar.2.2 (own_inb S h1 h2) (Hs.at (own_inb S h1 h2) hv) (g := mkF m pc Ls (.int j :: .ref a :: st)) rfl rfl (hb hby hd) _ r) K
theorem own_ldR (X : OSt Z EL a0 n0 h0 ws own bytes mx p l e R s m args below meth c sv T h k n) (pc' : Nat) {a : Addr} {kb : ClassId} {ty : FieldType} {z j : Int32} {v : Value} {vs : List Value} {dv : Value} (hd : decode bytes pc = .ok (.aaload, 1)) (A : Arv Z h a kb ty z vs dv) (hty : ty.isReference = true) (h1 : ¬ j < 0) (h2 : j < z) (hv : vs.getD j.toNatClampNeg dv = v) (hq : pc' = pc + 1) (K : OGo p.tables e below P T (mkF m pc' Ls (v :: st))) : OGo p.tables e below P T (mkF m pc Ls (.int j :: .ref a :: st)) := by
  subst hq
  obtain ⟨hx, hby, hml, eT, hlk, vm0, locs, Y, I⟩ := X
  obtain ⟨cl, Ar, q, S, N, Hs, G⟩ := A
  exact og (fun _ r => Y.aaload hx (j := j) (v := v) (by rw [eT]; exact Ar.1) (State.isArrayOf_alike (show Z.Warmed39 (s.setVm vm0).vm from I.2.2.2.2.1).alike Ar.2.1) hty Ar.2.2 (own_inb S h1 h2) (Hs.at (own_inb S h1 h2) hv) (g := mkF m pc Ls (.int j :: .ref a :: st)) rfl rfl (hb hby hd) _ r) K
theorem own_ldcI (X : OSt Z EL a0 n0 h0 ws own bytes mx p l e R s m args below meth c sv T h k n) (pc' : Nat) {index : Nat} {v : Int32} (hd : decode bytes pc = .ok (.ldc index, 2)) (w : (Cond.constant own index v).before a0 Z = true) (hq : pc' = pc + 2) (K : OGo p.tables e below P T (mkF m pc' Ls (.int v :: st))) : OGo p.tables e below P T (mkF m pc Ls st) := by
  subst hq
  obtain ⟨hx, hby, hml, eT, hlk, vm0, locs, Y, I⟩ := X
  exact og (fun _ r => Y.ldcInt hx (show (s.setVm vm0).vm.findClass own = _ from I.2.2.2.2.2.1) (mvT (show Z.Warmed39 (s.setVm vm0).vm from I.2.2.2.2.1) w) (g := mkF m pc Ls st) rfl (hb hby hd) _ r) K
theorem own_instNull (X : OSt Z EL a0 n0 h0 ws own bytes mx p l e R s m args below meth c sv T h k n) (pc' : Nat) {index : Nat} (hd : decode bytes pc = .ok (.instanceof index, 3)) (hq : pc' = pc + 3) (K : OGo p.tables e below P T (mkF m pc' Ls (.int 0 :: st))) : OGo p.tables e below P T (mkF m pc Ls (.null :: st)) := by
  subst hq
  obtain ⟨hx, hby, hml, eT, hlk, vm0, locs, Y, I⟩ := X
  exact og (fun _ r => Y.instanceofNull hx (g := mkF m pc Ls (.null :: st)) rfl rfl (hb hby hd) _ r) K
theorem own_castNull (X : OSt Z EL a0 n0 h0 ws own bytes mx p l e R s m args below meth c sv T h k n) (pc' : Nat) {index : Nat} (hd : decode bytes pc = .ok (.checkcast index, 3)) (hq : pc' = pc + 3) (K : OGo p.tables e below P T (mkF m pc' Ls (.null :: st))) : OGo p.tables e below P T (mkF m pc Ls (.null :: st)) := by
  subst hq
  obtain ⟨hx, hby, hml, eT, hlk, vm0, locs, Y, I⟩ := X
  exact og (fun _ r => Y.checkcastNull hx (g := mkF m pc Ls (.null :: st)) rfl rfl (hb hby hd) _ r) K
theorem own_instNo (X : OSt Z EL a0 n0 h0 ws own bytes mx p l e R s m args below meth c sv T h k n) (pc' : Nat) {C C' : String} {index : Nat} {a : Addr} (hd : decode bytes pc = .ok (.instanceof index, 3)) (w : (Cond.classLink own index C).before a0 Z = true) (E : Exa Z h a C') (F : ∃ c t, Z.vm.findClass C' = some c ∧ Z.vm.findClass C = some t ∧ Z.vm.assignable c t = false) (hq : pc' = pc + 3)
    (K : ∀ (T' : State), OSt Z EL a0 n0 h0 ws own bytes mx p l e R s m args below meth c sv T' h k n → OGo p.tables e below P T' (mkF m pc' Ls (.int 0 :: st))) : OGo p.tables e below P T (mkF m pc Ls (.ref a :: st)) := by
  subst hq
  obtain ⟨hx, hby, hml, eT, hlk, vm0, locs, Y, I⟩ := X
  obtain ⟨T', Y', e', stp⟩ := instNo Y hx (show Z.Warmed39 (s.setVm vm0).vm from I.2.2.2.2.1) (show (s.setVm vm0).vm.findClass own = _ from I.2.2.2.2.2.1) w eT E F (g := mkF m pc Ls (.ref a :: st)) rfl rfl (hb hby hd)
  exact og stp (K T' ⟨hx, hby, hml, e', hlk, vm0, _, Y', I⟩)
theorem own_nsRoot {O C : String} {kk : Nat} (w : (Cond.noSuperclass O).before a0 Z = true) (wk : (Cond.instantiable C kk).before a0 Z = true) (hn : O ≠ C) : NS Z O C := by
  obtain ⟨c, k, h1, h2, h3, -, -⟩ := Cond.noSuperclass_spec w
  obtain ⟨t, k2, g1, -⟩ := Cond.instantiable_spec wk
  have ne := ids_ne h1 g1 hn
  refine ⟨c, t, h1, g1, fun fuel => ?_⟩
  cases fuel with
  | zero => rfl
  | succ f => simp [Vm.isSubclassAux, ne, h2, h3]
theorem own_nsNo {C S K' : String} {kk : Nat} (w : (Cond.superclass C S).before a0 Z = true) (wk : (Cond.instantiable K' kk).before a0 Z = true) (N : NS Z C K') (hn : C ≠ K') : ∃ c t, Z.vm.findClass C = some c ∧ Z.vm.findClass K' = some t ∧ Z.vm.assignable c t = false := by
  obtain ⟨c, t, h0, g0, n3⟩ := N
  obtain ⟨p, k, kp, h1, h2, h3, h4, h5, -, h7⟩ := Cond.superclass_spec h0 w
  obtain ⟨t', k2, g1, g2, g3, g4, -⟩ := Cond.instantiable_spec wk
  cases g0.symm.trans g1
  have ne := ids_ne h0 g0 hn
  have g5 : k2.isInterface = false := by
    cases hi : k2.isInterface with
    | false => rfl
    | true => rw [hi] at g4; simp at g4
  refine ⟨c, t, h0, g0, ?_⟩
  show Z.vm.assignableAux (255 + 1) c t = false
  simp [Vm.assignableAux, ne, h2, g2, h5, g3, g5, Vm.isSubclass, n3]
theorem own_ldc2L (X : OSt Z EL a0 n0 h0 ws own bytes mx p l e R s m args below meth c sv T h k n) (pc' : Nat) {index : Nat} {v : Int64} (hd : decode bytes pc = .ok (.ldc2_w index, 3)) (w : (Cond.constantLong own index v).before a0 Z = true) (hq : pc' = pc + 3) (K : OGo p.tables e below P T (mkF m pc' Ls (.long v :: st))) : OGo p.tables e below P T (mkF m pc Ls st) := by
  subst hq
  obtain ⟨hx, hby, hml, eT, hlk, vm0, locs, Y, I⟩ := X
  exact og (fun _ r => Y.ldc2Long hx (show (s.setVm vm0).vm.findClass own = _ from I.2.2.2.2.2.1) (mvT (show Z.Warmed39 (s.setVm vm0).vm from I.2.2.2.2.1) w) (g := mkF m pc Ls st) rfl (hb hby hd) _ r) K
theorem own_ldBox (X : OSt Z EL a0 n0 h0 ws own bytes mx p l e R s m args below meth c sv T h k n) (pc' : Nat) {a : Addr} {cl : Cell} {C d : String} {z j : Int32} {val : Int32 → Value} (hd : decode bytes pc = .ok (.aaload, 1)) (B : Bxs Z a cl C d z val) (h1 : ¬ j < 0) (h2 : j < z) (hq : pc' = pc + 1) (K : ∀ b : Addr, Exa Z h b C → Fld Z h b C "value" d (val j) → OGo p.tables e below P T (mkF m pc' Ls (.ref b :: st))) : OGo p.tables e below P T (mkF m pc Ls (.int j :: .ref a :: st)) := by
  subst hq
  have O1 := X.old
  obtain ⟨hx, hby, hml, eT, hlk, vm0, locs, Y, I⟩ := X
  obtain ⟨A, S, N, F⟩ := B
  obtain ⟨b, q1, q2, q3⟩ := F j (own_inb S h1 h2)
  exact og (fun _ r => Y.aaload hx (j := j) (v := .ref b) (by rw [eT]; exact (A.ext O1.2).1) (State.isArrayOf_alike (show Z.Warmed39 (s.setVm vm0).vm from I.2.2.2.2.1).alike A.2.1) rfl A.2.2 (own_inb S h1 h2) q1 (g := mkF m pc Ls (.int j :: .ref a :: st)) rfl rfl (hb hby hd) _ r) (K b (q2.ext O1.2) (q3.ext O1.2))
def OMet (l : Launch) (Z : State) (EL : List (String × Nat)) (n0 : Nat) (y : MethodName) (wc : List Jvm.Cond) (rm : Room) (as' : Array Value) (h0 : Heap) (ws : List Addr) (Q : Option Value → Heap → Prop) : Prop :=
  MetFree l y (head1 wc rm) (fun a U => a = as' ∧ Z.Warmed39 U.vm ∧ U.heap = h0 ∧ CHv Z EL U.vm h0 ∧ ∀ x ∈ ws, Safe Z EL U.vm h0 x) (fun _ _ _ _ _ => True) (fun _ U o U' => OEnd Z EL n0 h0 ws U Q rm.cells rm.slots o U')
theorem own_enter {y : MethodName} {ret : Option FieldType} {wc : List Jvm.Cond} {rm : Room} {as' : Array Value} {Q : Option Value → Heap → Prop} (Ls : Array Slot) (hn : plainFor y = true) (ef : ∀ m, entryFrame m as' mx = mkF m 0 Ls []) (hEL : EW Z a0 EL) (O : Old Z n0 h0) (hlt : ∀ x ∈ ws, n0 ≤ x ∧ x < h0.size)
    (K : ∀ (p : Program) (e : Env) (s : State) (m : MethodId) (below : List Frame) (meth : Method) (c : Code) (T : State), OSt Z EL a0 n0 h0 ws y.cls bytes mx p l e rm s m as' below meth c ws T h0 0 0 → meth.name = y.name → meth.sig.returnType = ret → OGo p.tables e below (OEnd Z EL n0 h0 ws s Q rm.cells rm.slots) T (mkF m 0 Ls [])) :
    OMet l Z EL n0 y (Jvm.Cond.code y bytes mx ret :: wc) rm as' h0 ws Q := by
  refine MetFree.of_bodySF hn hisR ?_
  intro p e s m args below meth c s₁ Bd hml hP _
  obtain ⟨rfl, hZ, hh, hC, hS⟩ := hP
  have Y : Stand p l e rm (s.setVm s.vm) m args below meth c s₁ [] 0 0 := Stand.of_body Bd
  have hown := findClass_of_methodNamed Bd.named
  have e0 : s₁.heap = h0 := by rw [← hh, Bd.state]; rfl
  obtain ⟨t, o, g1, g2⟩ := K p e s m below meth c s₁ ⟨Bd.exec, Bd.bytes, hml, e0, Bd.notSynchronized, s.vm, [], Y, hh, O, Keep.refl _ _, ⟨_, (State.WarmedH.refl s).since _, Nat.le_refl _⟩, hZ, hown, hEL, by rw [hh]; exact CHr.refl hC, fun _ => rfl, Fr.nil _, fun x hx => ⟨(hlt x hx).1, (hlt x hx).2, Or.inl hx, hS x hx⟩⟩ (name_of_methodNamed Bd.named Bd.method).1 Bd.returns
  exact ⟨t, o, castTop (ef m) g1, g2⟩
theorem own_leave (X : OSt Z EL a0 n0 h0 ws own bytes mx p l e R s m args below meth c sv T h k n) {v : Option Value} {Q : Option Value → Heap → Prop} {k' n' : Nat} (hv : meth.sig.returnType = none → v = none) (hk : k ≤ k') (hn : n ≤ n') (hQ : Q v h) :
    ∃ fs, (∀ (f : JFrame) (acts : List Action), f.method = m → f.locked = none → f.entered = [] → (doReturn e (T.setTop f) acts v).1 = T.setFrames fs) ∧ (T.setFrames fs).status = .running ∧ Ended (T.setFrames fs) below (.returned v) ∧ OEnd Z EL n0 h0 ws s Q k' n' (.returned v) (T.setFrames fs) := by
  obtain ⟨hx, hby, hml, eT, hlk, vm0, locs, Y, b1, b2, b3, ⟨k0, b4, b4'⟩, b5, b6, b7, b8, b9, b10, b11⟩ := X.more hk hn
  obtain ⟨fs, h1, h2, h3, hW, hs⟩ := Y.leave hv hlk
  have C := CHv.at Y b5 b7 b8.1
  obtain ⟨q1, q2, q3⟩ := b4.ended (U := T.setFrames fs) hW (by show k0 ≤ T.heap.size; rw [eT]; exact b4') hs
  refine ⟨fs, h1, h2, h3, v, locs, rfl, ⟨b10, by show Keep h0 T.heap ws; rw [eT]; exact b3, by show Q v T.heap; rw [eT]; exact hQ⟩, by show CHr Z EL s.vm s.heap T.vm T.heap; rw [eT]; exact b8.trans C, ⟨⟨v, rfl⟩, q1, q2, q3⟩, fun hnil => ?_⟩
  have := b9 hnil
  subst this
  exact ⟨⟨v, rfl⟩, hW, hs⟩
theorem own_retV (X : OSt Z EL a0 n0 h0 ws own bytes mx p l e R s m args below meth c sv T h k n) {Q : Option Value → Heap → Prop} {k' n' : Nat} (hd : decode bytes pc = .ok (.return_, 1)) (hret : meth.sig.returnType = none) (hk : k ≤ k') (hn : n ≤ n') (hQ : Q none h) : OGo p.tables e below (OEnd Z EL n0 h0 ws s Q k' n') T (mkF m pc Ls []) := by
  obtain ⟨fs, h1, h2, h3, h4⟩ := own_leave X (fun _ => rfl) hk hn hQ
  have X' := X
  obtain ⟨hx, hby, hml, eT, hlk, vm0, locs, Y, -⟩ := X'
  exact ⟨_, _, Y.returnOut hx hret (hb hby hd) h1, h2, h3, h4⟩
theorem own_ret (X : OSt Z EL a0 n0 h0 ws own bytes mx p l e R s m args below meth c sv T h k n) {Q : Option Value → Heap → Prop} {k' n' : Nat} {t : FieldType} {w : Value} {i : Instr} (hd : decode bytes pc = .ok (i, 1)) (hret : meth.sig.returnType = some t) (hnw : narrow t w = w)
    (hi : (i = .ireturn ∧ (t = .int ∨ t = .boolean ∨ t = .byte ∨ t = .char ∨ t = .short) ∧ ∃ z, w = .int z) ∨ (i = .lreturn ∧ t = .long ∧ ∃ z, w = .long z) ∨ (i = .dreturn ∧ t = .double ∧ ∃ z, w = .double z) ∨ (i = .freturn ∧ t = .float ∧ ∃ z, w = .float z) ∨ (i = .areturn ∧ t.isReference = true ∧ w.isRef = true))
    (hk : k ≤ k') (hn : n ≤ n') (hQ : Q (some w) h) : OGo p.tables e below (OEnd Z EL n0 h0 ws s Q k' n') T (mkF m pc Ls (w :: st)) := by
  obtain ⟨fs, h1, h2, h3, h4⟩ := own_leave X (fun q => by rw [hret] at q; cases q) hk hn hQ
  have X' := X
  obtain ⟨hx, hby, hml, eT, hlk, vm0, locs, Y, -⟩ := X'
  exact ⟨_, _, retOut Y hx hret hnw hi (hb hby hd) h1, h2, h3, h4⟩
theorem own_retI (X : OSt Z EL a0 n0 h0 ws own bytes mx p l e R s m args below meth c sv T h k n) {Q : Option Value → Heap → Prop} {k' n' : Nat} {z : Int32} (hd : decode bytes pc = .ok (.ireturn, 1)) (hret : meth.sig.returnType = some .int) (hk : k ≤ k') (hn : n ≤ n') (hQ : Q (some (.int z)) h) : OGo p.tables e below (OEnd Z EL n0 h0 ws s Q k' n') T (mkF m pc Ls (.int z :: st)) :=
  own_ret X hd hret rfl (Or.inl ⟨rfl, Or.inl rfl, z, rfl⟩) hk hn hQ
theorem own_retZ (X : OSt Z EL a0 n0 h0 ws own bytes mx p l e R s m args below meth c sv T h k n) {Q : Option Value → Heap → Prop} {k' n' : Nat} {z : Int32} (hd : decode bytes pc = .ok (.ireturn, 1)) (hret : meth.sig.returnType = some .boolean) (hz : narrow .boolean (.int z) = .int z) (hk : k ≤ k') (hn : n ≤ n') (hQ : Q (some (.int z)) h) : OGo p.tables e below (OEnd Z EL n0 h0 ws s Q k' n') T (mkF m pc Ls (.int z :: st)) :=
  own_ret X hd hret hz (Or.inl ⟨rfl, Or.inr (Or.inl rfl), z, rfl⟩) hk hn hQ
theorem own_retC (X : OSt Z EL a0 n0 h0 ws own bytes mx p l e R s m args below meth c sv T h k n) {Q : Option Value → Heap → Prop} {k' n' : Nat} {z : Int32} (hd : decode bytes pc = .ok (.ireturn, 1)) (hret : meth.sig.returnType = some .char) (hz : narrow .char (.int z) = .int z) (hk : k ≤ k') (hn : n ≤ n') (hQ : Q (some (.int z)) h) : OGo p.tables e below (OEnd Z EL n0 h0 ws s Q k' n') T (mkF m pc Ls (.int z :: st)) :=
  own_ret X hd hret hz (Or.inl ⟨rfl, Or.inr (Or.inr (Or.inr (Or.inl rfl))), z, rfl⟩) hk hn hQ
theorem own_retY (X : OSt Z EL a0 n0 h0 ws own bytes mx p l e R s m args below meth c sv T h k n) {Q : Option Value → Heap → Prop} {k' n' : Nat} {z : Int32} (hd : decode bytes pc = .ok (.ireturn, 1)) (hret : meth.sig.returnType = some .byte) (hz : narrow .byte (.int z) = .int z) (hk : k ≤ k') (hn : n ≤ n') (hQ : Q (some (.int z)) h) : OGo p.tables e below (OEnd Z EL n0 h0 ws s Q k' n') T (mkF m pc Ls (.int z :: st)) :=
  own_ret X hd hret hz (Or.inl ⟨rfl, Or.inr (Or.inr (Or.inl rfl)), z, rfl⟩) hk hn hQ
theorem own_retL (X : OSt Z EL a0 n0 h0 ws own bytes mx p l e R s m args below meth c sv T h k n) {Q : Option Value → Heap → Prop} {k' n' : Nat} {z : Int64} (hd : decode bytes pc = .ok (.lreturn, 1)) (hret : meth.sig.returnType = some .long) (hk : k ≤ k') (hn : n ≤ n') (hQ : Q (some (.long z)) h) : OGo p.tables e below (OEnd Z EL n0 h0 ws s Q k' n') T (mkF m pc Ls (.long z :: st)) :=
  own_ret X hd hret rfl (Or.inr (Or.inl ⟨rfl, rfl, z, rfl⟩)) hk hn hQ
theorem own_narR {t : FieldType} {w : Value} (ht : t.isReference = true) (hw : w.isRef = true) : narrow t w = w := by
  rcases ref_cases hw with rfl | ⟨a, rfl⟩ <;> cases t <;> first | rfl | cases ht
theorem own_retA (X : OSt Z EL a0 n0 h0 ws own bytes mx p l e R s m args below meth c sv T h k n) {Q : Option Value → Heap → Prop} {k' n' : Nat} {t : FieldType} {w : Value} (hd : decode bytes pc = .ok (.areturn, 1)) (hret : meth.sig.returnType = some t) (ht : t.isReference = true) (hw : w.isRef = true) (hk : k ≤ k') (hn : n ≤ n') (hQ : Q (some w) h) : OGo p.tables e below (OEnd Z EL n0 h0 ws s Q k' n') T (mkF m pc Ls (w :: st)) :=
  own_ret X hd hret (own_narR ht hw) (Or.inr (Or.inr (Or.inr (Or.inr ⟨rfl, ht, hw⟩)))) hk hn hQ
theorem own_payN {vm0 : Vm} {y : MethodName} {maxL : Nat} {ret : Option FieldType} {rm : Room} {len W : Nat} {as' : Array Value} {ws' : List Addr} {Q : Option Value → Heap → Prop} {bc : ByteArray} (hnil : EL = []) (hM : OMet l Z EL n0 y [Jvm.Cond.code y bc maxL ret] rm as' h ws' Q) (hZ : Z.Warmed39 vm0) (wc : (Cond.code y bc maxL ret).before a0 Z = true) (wz : (Cond.initialized y.cls).before a0 Z = true) (hf : rm.frames + 1 ≤ R.frames) (hl : W + (maxL + 11) + rm.locals ≤ R.locals) (hEL : EW Z a0 EL) (H : CHv Z EL vm0 h) (hS : ∀ x ∈ ws', x < h.size ∧ Safe Z EL vm0 h x) :
    Back l R p e below (s.setVm vm0) args y len W (fun A a => a = as' ∧ A.U.heap = h ∧ A.cells + rm.cells ≤ R.cells ∧ A.slots + rm.slots ≤ R.slots)
      (fun A _ v B => ∃ L, (Fr n0 L ∧ Keep h B.U.heap ws' ∧ Q v B.U.heap) ∧ B.locs = A.locs ++ L ∧ B.cells = A.cells + rm.cells ∧ B.slots = A.slots + rm.slots) :=
  Back.of_free (bytes := bc) (maxL := maxL) (ret := ret) (E := fun _ _ o t L k n => k = rm.cells ∧ n = rm.slots ∧ ∃ v, o = .returned v ∧ (Fr n0 L ∧ Keep h t.heap ws' ∧ Q v t.heap)) hM hf hl
    (fun m meth c A a Y hp => have hU : Z.Warmed39 A.U.vm := wtrans (s := s.setVm vm0) hZ Y.warmed
      ⟨by show (Cond.and _ .tt).before a A.U = true; rw [Cond.before_and, mv hU wc]; rfl, mv hU wc, mv hU wz, hp.2.2.1, hp.2.2.2⟩)
    (fun m meth c A a g mk Y hp => ⟨hp.1, wtrans (s := s.setVm vm0) hZ Y.warmed, hp.2.1, (CHv.at Y hZ hEL H).1, fun x hx => (CHv.at Y hZ hEL H).safe (hS x hx).1 (hS x hx).2⟩) (fun _ _ _ _ _ _ _ _ _ => trivial)
    (fun _ _ _ _ ⟨v, L, h1, h2, _, _, h3⟩ => ⟨L, _, _, h3 hnil, rfl, rfl, v, h1, h2⟩)
    (fun m meth c A a g mk v t L k n Y hp _ _ ⟨e1, e2, v', e3, e4⟩ => by cases e3; subst e1 e2; exact ⟨L, e4, rfl, rfl, rfl⟩)
theorem own_payW {vm0 : Vm} {y : MethodName} {maxL : Nat} {ret : Option FieldType} {rm : Room} {len W : Nat} {as' : Array Value} {ws' : List Addr} {Q : Option Value → Heap → Prop} {bc : ByteArray} (hM : OMet l Z EL n0 y [Jvm.Cond.code y bc maxL ret] rm as' h ws' Q) (hZ : Z.Warmed39 vm0) (wc : (Cond.code y bc maxL ret).before a0 Z = true) (wz : (Cond.initialized y.cls).before a0 Z = true) (hf : rm.frames + 1 ≤ R.frames) (hl : W + (maxL + 11) + rm.locals ≤ R.locals) (hEL : EW Z a0 EL) (H : CHv Z EL vm0 h) (hS : ∀ x ∈ ws', x < h.size ∧ Safe Z EL vm0 h x) :
    BackS l R p e below (s.setVm vm0) args y len W (fun A a => a = as' ∧ A.U.heap = h ∧ A.cells + rm.cells ≤ R.cells ∧ A.slots + rm.slots ≤ R.slots)
      (fun A _ v B => ∃ L, (Fr n0 L ∧ Keep h B.U.heap ws' ∧ Q v B.U.heap) ∧ B.locs = A.locs ++ L ∧ B.cells = A.cells + rm.cells ∧ B.slots = A.slots + rm.slots ∧ CHr Z EL vm0 h B.U.vm B.U.heap) :=
  BackS.of_freeW (bytes := bc) (maxL := maxL) (ret := ret) (E := fun _ first o t L k n => k = rm.cells ∧ n = rm.slots ∧ (∃ v, o = .returned v ∧ (Fr n0 L ∧ Keep h t.heap ws' ∧ Q v t.heap)) ∧ CHr Z EL first.vm first.heap t.vm t.heap) hM hf hl
    (fun m meth c A a Y hp => have hU : Z.Warmed39 A.U.vm := wtrans (s := s.setVm vm0) hZ Y.warmed
      ⟨by show (Cond.and _ .tt).before a A.U = true; rw [Cond.before_and, mv hU wc]; rfl, mv hU wc, mv hU wz, hp.2.2.1, hp.2.2.2⟩)
    (fun m meth c A a g mk Y hp => ⟨hp.1, wtrans (s := s.setVm vm0) hZ Y.warmed, hp.2.1, (CHv.at Y hZ hEL H).1, fun x hx => (CHv.at Y hZ hEL H).safe (hS x hx).1 (hS x hx).2⟩) (fun _ _ _ _ _ _ _ _ _ => trivial)
    (fun _ _ _ _ ⟨v, L, h1, h2, h3, h4, _⟩ => ⟨L, _, _, h4, rfl, rfl, ⟨v, h1, h2⟩, h3⟩)
    (fun m meth c A a g mk v t L k n Y hp _ _ ⟨e1, e2, ⟨v', e3, e4⟩, e5⟩ => by
      cases e3; subst e1 e2
      refine ⟨L, e4, rfl, rfl, rfl, (CHv.at Y hZ hEL H).trans ?_⟩
      rw [← hp.2.1]; exact e5)
theorem own_stat (X : OSt Z EL a0 n0 h0 ws own bytes mx p l e R s m args below meth c sv T h k n) (pc' : Nat) {y : MethodName} {index maxL W : Nat} {ret : Option FieldType} {rm : Room} {as' : Array Value} {ws' : List Addr} {Q : Option Value → Heap → Prop} {bc : ByteArray} {argsL rest : List Value} (hd : decode bytes pc = .ok (.invokestatic index, 3)) (hM : OMet l Z EL n0 y [Jvm.Cond.code y bc maxL ret] rm as' h ws' Q) (w1 : (Cond.methodLink own index y).before a0 Z = true) (w2 : (Cond.static y).before a0 Z = true) (wz : (Cond.initialized y.cls).before a0 Z = true) (wc : (Cond.code y bc maxL ret).before a0 Z = true) (hy : y.cls ≠ "java/lang/invoke/MethodHandle" ∧ y.cls ≠ "java/lang/invoke/VarHandle")
    (hlen : ∀ sig, parseMethodDescriptor y.desc = some sig → argsL.length = sig.parameters.length) (hst : st = argsL.reverse ++ rest) (has : argsL.toArray = as') (hsz : Ls.size = mx) (hW : (rest.map fun v => v.category).sum = W) (hf : rm.frames + 1 ≤ R.frames) (hl : W + (maxL + 11) + rm.locals ≤ R.locals) (hc : k + rm.cells ≤ R.cells) (hs : n + rm.slots ≤ R.slots) (hsv : ∀ x ∈ ws', x ∈ sv) (hq : pc' = pc + 3)
    (K : ∀ (T' : State) (h' : Heap) (v : Option Value), OSt Z EL a0 n0 h0 ws own bytes mx p l e R s m args below meth c sv T' h' (k + rm.cells) (n + rm.slots) → Keep h h' ws' → Q v h' → OGo p.tables e below P T' (mkF m pc' Ls (v.toList ++ rest))) : OGo p.tables e below P T (mkF m pc Ls st) := by
  subst hq
  obtain ⟨hx, hby, hml, eT, hlk, vm0, locs, Y, I⟩ := X
  have I0 := I
  obtain ⟨b1, b2, b3, b4, b5, b6, b7, b8, b9, b10, b11⟩ := I0
  have hS : ∀ x ∈ ws', x < h.size ∧ Safe Z EL vm0 h x := fun x hx => ⟨(b11 x (hsv x hx)).2.1, (b11 x (hsv x hx)).2.2.2⟩
  have hZ : Z.Warmed39 (s.setVm vm0).vm := b5
  have hW' : 2 * (mkF m pc Ls st).monitorRoom + (rest.map fun v => v.category).sum ≤ W := by show 2 * 0 + _ ≤ _; rw [hW]; omega
  by_cases hnil : EL = []
  · obtain ⟨v, vm₁, ⟨U, L', k', n'⟩, -, Y', ⟨L, ⟨q1, q2, q3⟩, l1, l2, l3⟩, stp⟩ := Jvm.LawKit.callS Y hx (y := y) (show (s.setVm vm0).vm.findClass own = _ from b6) (mvT hZ w1) (mvT hZ w2) (mvT hZ wz) (mvT hZ wc) hy (own_payN hnil hM b5 wc wz hf hl b7 b8.1 hS) (g := mkF m pc Ls st) rfl (by rw [hml]; exact hsz) (argsL := argsL) (rest := rest) hlen hst hW' (hb hby hd) (fun _ _ => ⟨has, eT, hc, hs⟩)
    dsimp only [Pt.U, Pt.locs, Pt.cells, Pt.slots] at Y' l1 l2 l3 q1 q2 q3 stp
    subst l1 l2 l3
    exact og stp (K U U.heap v ⟨hx, hby, hml, rfl, hlk, vm0, _, Y', I.keep q2 hsv q1⟩ q2 q3)
  · obtain ⟨v, vm₁, ⟨U, L', k', n'⟩, -, Y', S', g', ⟨L, ⟨q1, q2, q3⟩, l1, l2, l3, C⟩, stp⟩ := callSS Y hx (y := y) (show (s.setVm vm0).vm.findClass own = _ from b6) (mvT hZ w1) (mvT hZ w2) (mvT hZ wz) (mvT hZ wc) hy (own_payW hM b5 wc wz hf hl b7 b8.1 hS) (g := mkF m pc Ls st) rfl (by rw [hml]; exact hsz) (argsL := argsL) (rest := rest) hlen hst hW' (hb hby hd) (fun _ _ => ⟨has, eT, hc, hs⟩)
    dsimp only [Pt.U, Pt.locs, Pt.cells, Pt.slots] at Y' l1 l2 l3 q1 q2 q3 stp S' g' C
    subst l1 l2 l3
    exact og (fun _ q => stp.trans q) (K U U.heap v ⟨hx, hby, hml, rfl, hlk, U.vm, _, Y', I.call q2 hsv q1 C S' (fun q => absurd q hnil)⟩ q2 q3)
theorem own_spec (X : OSt Z EL a0 n0 h0 ws own bytes mx p l e R s m args below meth c sv T h k n) (pc' : Nat) {y : MethodName} {index maxL W : Nat} {rm : Room} {as' : Array Value} {ws' : List Addr} {Q : Option Value → Heap → Prop} {bc : ByteArray} {a : Addr} {argsL rest : List Value} (hd : decode bytes pc = .ok (.invokespecial index, 3)) (hy1 : y.name = "<init>") (hM : OMet l Z EL n0 y [Jvm.Cond.code y bc maxL none] rm as' h ws' Q) (w1 : (Cond.methodLink own index y).before a0 Z = true) (w2 : (Cond.instanceMethod y).before a0 Z = true) (wz : (Cond.initialized y.cls).before a0 Z = true) (wc : (Cond.code y bc maxL none).before a0 Z = true) (hy : y.cls ≠ "java/lang/invoke/MethodHandle" ∧ y.cls ≠ "java/lang/invoke/VarHandle")
    (hlen : ∀ sig, parseMethodDescriptor y.desc = some sig → argsL.length = sig.parameters.length) (hst : st = argsL.reverse ++ .ref a :: rest) (has : (.ref a :: argsL).toArray = as') (hsz : Ls.size = mx) (hW : (rest.map fun v => v.category).sum = W) (hf : rm.frames + 1 ≤ R.frames) (hl : W + (maxL + 11) + rm.locals ≤ R.locals) (hc : k + rm.cells ≤ R.cells) (hs : n + rm.slots ≤ R.slots) (hsv : ∀ x ∈ ws', x ∈ sv) (hq : pc' = pc + 3)
    (K : ∀ (T' : State) (h' : Heap) (v : Option Value), OSt Z EL a0 n0 h0 ws own bytes mx p l e R s m args below meth c sv T' h' (k + rm.cells) (n + rm.slots) → Keep h h' ws' → Q v h' → OGo p.tables e below P T' (mkF m pc' Ls (v.toList ++ rest))) : OGo p.tables e below P T (mkF m pc Ls st) := by
  subst hq
  obtain ⟨hx, hby, hml, eT, hlk, vm0, locs, Y, I⟩ := X
  have I0 := I
  obtain ⟨b1, b2, b3, b4, b5, b6, b7, b8, b9, b10, b11⟩ := I0
  have hS : ∀ x ∈ ws', x < h.size ∧ Safe Z EL vm0 h x := fun x hx => ⟨(b11 x (hsv x hx)).2.1, (b11 x (hsv x hx)).2.2.2⟩
  have hZ : Z.Warmed39 (s.setVm vm0).vm := b5
  have hW' : 2 * (mkF m pc Ls st).monitorRoom + (rest.map fun v => v.category).sum ≤ W := by show 2 * 0 + _ ≤ _; rw [hW]; omega
  by_cases hnil : EL = []
  · obtain ⟨v, vm₁, ⟨U, L', k', n'⟩, -, Y', ⟨L, ⟨q1, q2, q3⟩, l1, l2, l3⟩, stp⟩ := Y.specialBack hx (y := y) hy1 (show (s.setVm vm0).vm.findClass own = _ from b6) (mvT hZ w1) (mvT hZ w2) (mvT hZ wc) hy (own_payN hnil hM b5 wc wz hf hl b7 b8.1 hS) (g := mkF m pc Ls st) rfl (by rw [hml]; exact hsz) (Steps.refl _) (a := a) (argsL := argsL) (rest := rest) hlen hst hW' (hb hby hd) (fun _ _ => ⟨has, eT, hc, hs⟩)
    dsimp only [Pt.U, Pt.locs, Pt.cells, Pt.slots] at Y' l1 l2 l3 q1 q2 q3 stp
    subst l1 l2 l3
    exact og (fun _ q => stp.trans q) (K U U.heap v ⟨hx, hby, hml, rfl, hlk, vm0, _, Y', I.keep q2 hsv q1⟩ q2 q3)
  · obtain ⟨v, vm₁, ⟨U, L', k', n'⟩, -, Y', S', g', ⟨L, ⟨q1, q2, q3⟩, l1, l2, l3, C⟩, stp⟩ := Y.specialBackS hx (y := y) hy1 (show (s.setVm vm0).vm.findClass own = _ from b6) (mvT hZ w1) (mvT hZ w2) (mvT hZ wc) hy (own_payW hM b5 wc wz hf hl b7 b8.1 hS) (g := mkF m pc Ls st) rfl (by rw [hml]; exact hsz) (Steps.refl _) (a := a) (argsL := argsL) (rest := rest) hlen hst hW' (hb hby hd) (fun _ _ => ⟨has, eT, hc, hs⟩)
    dsimp only [Pt.U, Pt.locs, Pt.cells, Pt.slots] at Y' l1 l2 l3 q1 q2 q3 stp S' g' C
    subst l1 l2 l3
    exact og (fun _ q => stp.trans q) (K U U.heap v ⟨hx, hby, hml, rfl, hlk, U.vm, _, Y', I.call q2 hsv q1 C S' (fun q => absurd q hnil)⟩ q2 q3)
theorem own_virt (X : OSt Z EL a0 n0 h0 ws own bytes mx p l e R s m args below meth c sv T h k n) (pc' : Nat) {y z : MethodName} {C : String} {index maxL W : Nat} {ret : Option FieldType} {rm : Room} {as' : Array Value} {ws' : List Addr} {Q : Option Value → Heap → Prop} {bc : ByteArray} {a : Addr} {argsL rest : List Value} (hd : decode bytes pc = .ok (.invokevirtual index, 3)) (E : Exa Z h a C) (hnf : ∀ vm0, Z.Warmed39 (s.setVm vm0).vm → NotFace (s.setVm vm0) y) (hM : OMet l Z EL n0 z [Jvm.Cond.code z bc maxL ret] rm as' h ws' Q) (w1 : (Cond.methodLink own index y).before a0 Z = true) (w2 : (Cond.declares y).before a0 Z = true) (w3 : (Cond.selects C y z).before a0 Z = true) (w4 : (Cond.instanceMethod z).before a0 Z = true) (wz : (Cond.initialized z.cls).before a0 Z = true) (wc : (Cond.code z bc maxL ret).before a0 Z = true) (hy : y.cls ≠ "java/lang/invoke/MethodHandle" ∧ y.cls ≠ "java/lang/invoke/VarHandle")
    (hlen : ∀ sig, parseMethodDescriptor y.desc = some sig → argsL.length = sig.parameters.length) (hst : st = argsL.reverse ++ .ref a :: rest) (has : (.ref a :: argsL).toArray = as') (hsz : Ls.size = mx) (hW : (rest.map fun v => v.category).sum = W) (hf : rm.frames + 1 ≤ R.frames) (hl : W + (maxL + 11) + rm.locals ≤ R.locals) (hc : k + rm.cells ≤ R.cells) (hs : n + rm.slots ≤ R.slots) (hsv : ∀ x ∈ ws', x ∈ sv) (hq : pc' = pc + 3)
    (K : ∀ (T' : State) (h' : Heap) (v : Option Value), OSt Z EL a0 n0 h0 ws own bytes mx p l e R s m args below meth c sv T' h' (k + rm.cells) (n + rm.slots) → Keep h h' ws' → Q v h' → OGo p.tables e below P T' (mkF m pc' Ls (v.toList ++ rest))) : OGo p.tables e below P T (mkF m pc Ls st) := by
  subst hq
  obtain ⟨hx, hby, hml, eT, hlk, vm0, locs, Y, I⟩ := X
  have I0 := I
  obtain ⟨b1, b2, b3, b4, b5, b6, b7, b8, b9, b10, b11⟩ := I0
  have hS : ∀ x ∈ ws', x < h.size ∧ Safe Z EL vm0 h x := fun x hx => ⟨(b11 x (hsv x hx)).2.1, (b11 x (hsv x hx)).2.2.2⟩
  have hZ : Z.Warmed39 (s.setVm vm0).vm := b5
  have hW' : 2 * (mkF m pc Ls st).monitorRoom + (rest.map fun v => v.category).sum ≤ W := by show 2 * 0 + _ ≤ _; rw [hW]; omega
  obtain ⟨cq, kq, qa, qb, qc⟩ := isOf (s := s.setVm vm0) hZ eT E
  by_cases hnil : EL = []
  · obtain ⟨v, vm₁, ⟨U, L', k', n'⟩, -, Y', ⟨L, ⟨q1, q2, q3⟩, l1, l2, l3⟩, stp⟩ := Y.virtualBack hx (y := y) (z := z) (show (s.setVm vm0).vm.findClass own = _ from b6) (mvT hZ w1) (mvT hZ w2) (hnf vm0 hZ) (mvT hZ w3) (mvT hZ w4) hy (own_payN hnil hM b5 wc wz hf hl b7 b8.1 hS) qa qc (g := mkF m pc Ls st) rfl (by rw [hml]; exact hsz) (Steps.refl _) (argsL := argsL) (rest := rest) hlen hst hW' (hb hby hd) (fun _ _ => ⟨has, eT, hc, hs⟩)
    dsimp only [Pt.U, Pt.locs, Pt.cells, Pt.slots] at Y' l1 l2 l3 q1 q2 q3 stp
    subst l1 l2 l3
    exact og (fun _ q => stp.trans q) (K U U.heap v ⟨hx, hby, hml, rfl, hlk, vm0, _, Y', I.keep q2 hsv q1⟩ q2 q3)
  · obtain ⟨v, vm₁, ⟨U, L', k', n'⟩, -, Y', S', g', ⟨L, ⟨q1, q2, q3⟩, l1, l2, l3, C⟩, stp⟩ := Y.virtualBackS hx (y := y) (z := z) (show (s.setVm vm0).vm.findClass own = _ from b6) (mvT hZ w1) (mvT hZ w2) (hnf vm0 hZ) (mvT hZ w3) (mvT hZ w4) hy (own_payW hM b5 wc wz hf hl b7 b8.1 hS) qa qc (g := mkF m pc Ls st) rfl (by rw [hml]; exact hsz) (Steps.refl _) (argsL := argsL) (rest := rest) hlen hst hW' (hb hby hd) (fun _ _ => ⟨has, eT, hc, hs⟩)
    dsimp only [Pt.U, Pt.locs, Pt.cells, Pt.slots] at Y' l1 l2 l3 q1 q2 q3 stp S' g' C
    subst l1 l2 l3
    exact og (fun _ q => stp.trans q) (K U U.heap v ⟨hx, hby, hml, rfl, hlk, U.vm, _, Y', I.call q2 hsv q1 C S' (fun q => absurd q hnil)⟩ q2 q3)
theorem own_priv (X : OSt Z EL a0 n0 h0 ws own bytes mx p l e R s m args below meth c sv T h k n) (pc' : Nat) {y : MethodName} {C : String} {index maxL W : Nat} {ret : Option FieldType} {rm : Room} {as' : Array Value} {ws' : List Addr} {Q : Option Value → Heap → Prop} {bc : ByteArray} {a : Addr} {argsL rest : List Value} (hd : decode bytes pc = .ok (.invokevirtual index, 3)) (E : Exa Z h a C) (hM : OMet l Z EL n0 y [Jvm.Cond.code y bc maxL ret] rm as' h ws' Q) (w1 : (Cond.methodLink own index y).before a0 Z = true) (w2 : (Cond.instanceMethod y).before a0 Z = true) (w3 : (Cond.selects y.cls y y).before a0 Z = true) (w4 : (Cond.privateMethod y).before a0 Z = true) (wz : (Cond.initialized y.cls).before a0 Z = true) (wc : (Cond.code y bc maxL ret).before a0 Z = true) (hy : y.cls ≠ "java/lang/invoke/MethodHandle" ∧ y.cls ≠ "java/lang/invoke/VarHandle")
    (hlen : ∀ sig, parseMethodDescriptor y.desc = some sig → argsL.length = sig.parameters.length) (hst : st = argsL.reverse ++ .ref a :: rest) (has : (.ref a :: argsL).toArray = as') (hsz : Ls.size = mx) (hW : (rest.map fun v => v.category).sum = W) (hf : rm.frames + 1 ≤ R.frames) (hl : W + (maxL + 11) + rm.locals ≤ R.locals) (hc : k + rm.cells ≤ R.cells) (hs : n + rm.slots ≤ R.slots) (hsv : ∀ x ∈ ws', x ∈ sv) (hq : pc' = pc + 3)
    (K : ∀ (T' : State) (h' : Heap) (v : Option Value), OSt Z EL a0 n0 h0 ws own bytes mx p l e R s m args below meth c sv T' h' (k + rm.cells) (n + rm.slots) → Keep h h' ws' → Q v h' → OGo p.tables e below P T' (mkF m pc' Ls (v.toList ++ rest))) : OGo p.tables e below P T (mkF m pc Ls st) := by
  subst hq
  obtain ⟨hx, hby, hml, eT, hlk, vm0, locs, Y, I⟩ := X
  have I0 := I
  obtain ⟨b1, b2, b3, b4, b5, b6, b7, b8, b9, b10, b11⟩ := I0
  have hS : ∀ x ∈ ws', x < h.size ∧ Safe Z EL vm0 h x := fun x hx => ⟨(b11 x (hsv x hx)).2.1, (b11 x (hsv x hx)).2.2.2⟩
  have hZ : Z.Warmed39 (s.setVm vm0).vm := b5
  have hW' : 2 * (mkF m pc Ls st).monitorRoom + (rest.map fun v => v.category).sum ≤ W := by show 2 * 0 + _ ≤ _; rw [hW]; omega
  obtain ⟨cq, q0, q0'⟩ := E.cell
  by_cases hnil : EL = []
  · obtain ⟨v, vm₁, ⟨U, L', k', n'⟩, -, Y', ⟨L, ⟨q1, q2, q3⟩, l1, l2, l3⟩, stp⟩ := Y.privateBack hx (y := y) (show (s.setVm vm0).vm.findClass own = _ from b6) (mvT hZ w1) (mvT hZ w2) (mvT hZ w3) (Cond.privateMethod_at (mvP hZ w4 (args := #[]))) (mvT hZ wc) hy (own_payN hnil hM b5 wc wz hf hl b7 b8.1 hS) (g := mkF m pc Ls st) rfl (by rw [hml]; exact hsz) (Steps.refl _) (a := a) (by rw [eT]; exact q0) q0' (argsL := argsL) (rest := rest) hlen hst hW' (hb hby hd) (fun _ _ => ⟨has, eT, hc, hs⟩)
    dsimp only [Pt.U, Pt.locs, Pt.cells, Pt.slots] at Y' l1 l2 l3 q1 q2 q3 stp
    subst l1 l2 l3
    exact og (fun _ q => stp.trans q) (K U U.heap v ⟨hx, hby, hml, rfl, hlk, vm0, _, Y', I.keep q2 hsv q1⟩ q2 q3)
  · obtain ⟨v, vm₁, ⟨U, L', k', n'⟩, -, Y', S', g', ⟨L, ⟨q1, q2, q3⟩, l1, l2, l3, C⟩, stp⟩ := Y.privateBackS hx (y := y) (show (s.setVm vm0).vm.findClass own = _ from b6) (mvT hZ w1) (mvT hZ w2) (mvT hZ w3) (Cond.privateMethod_at (mvP hZ w4 (args := #[]))) (mvT hZ wc) hy (own_payW hM b5 wc wz hf hl b7 b8.1 hS) (g := mkF m pc Ls st) rfl (by rw [hml]; exact hsz) (Steps.refl _) (a := a) (by rw [eT]; exact q0) q0' (argsL := argsL) (rest := rest) hlen hst hW' (hb hby hd) (fun _ _ => ⟨has, eT, hc, hs⟩)
    dsimp only [Pt.U, Pt.locs, Pt.cells, Pt.slots] at Y' l1 l2 l3 q1 q2 q3 stp S' g' C
    subst l1 l2 l3
    exact og (fun _ q => stp.trans q) (K U U.heap v ⟨hx, hby, hml, rfl, hlk, U.vm, _, Y', I.call q2 hsv q1 C S' (fun q => absurd q hnil)⟩ q2 q3)
theorem own_specB (X : OSt Z EL a0 n0 h0 ws own bytes mx p l e R s m args below meth c sv T h k n) (pc' : Nat) {y : MethodName} {index maxL W rc rs : Nat} {as' : Array Value} {ws' : List Addr} {Q : Option Value → Heap → List Loc → Prop} {bc : ByteArray} {a : Addr} {argsL rest : List Value} (hd : decode bytes pc = .ok (.invokespecial index, 3)) (hy1 : y.name = "<init>")
    (hK : ∀ vm0, Z.Warmed39 (s.setVm vm0).vm → Back l R p e below (s.setVm vm0) args y 3 W (fun A a => a = as' ∧ A.U.heap = h ∧ A.cells + rc ≤ R.cells ∧ A.slots + rs ≤ R.slots) (fun A _ v B => ∃ L, Q v B.U.heap L ∧ B.locs = A.locs ++ L ∧ B.cells = A.cells + rc ∧ B.slots = A.slots + rs)) (hQ : ∀ v h' L, Q v h' L → Fr n0 L ∧ Keep h h' ws')
    (w1 : (Cond.methodLink own index y).before a0 Z = true) (w2 : (Cond.instanceMethod y).before a0 Z = true) (wc : (Cond.code y bc maxL none).before a0 Z = true) (hy : y.cls ≠ "java/lang/invoke/MethodHandle" ∧ y.cls ≠ "java/lang/invoke/VarHandle")
    (hlen : ∀ sig, parseMethodDescriptor y.desc = some sig → argsL.length = sig.parameters.length) (hst : st = argsL.reverse ++ .ref a :: rest) (has : (.ref a :: argsL).toArray = as') (hsz : Ls.size = mx) (hW : (rest.map fun v => v.category).sum = W) (hc : k + rc ≤ R.cells) (hs : n + rs ≤ R.slots) (hsv : ∀ x ∈ ws', x ∈ sv) (hq : pc' = pc + 3)
    (K : ∀ (T' : State) (h' : Heap) (v : Option Value) (L : List Loc), OSt Z EL a0 n0 h0 ws own bytes mx p l e R s m args below meth c sv T' h' (k + rc) (n + rs) → Keep h h' ws' → Q v h' L → OGo p.tables e below P T' (mkF m pc' Ls (v.toList ++ rest))) : OGo p.tables e below P T (mkF m pc Ls st) := by
  subst hq
  obtain ⟨hx, hby, hml, eT, hlk, vm0, locs, Y, I⟩ := X
  have hZ : Z.Warmed39 (s.setVm vm0).vm := I.2.2.2.2.1
  have hW' : 2 * (mkF m pc Ls st).monitorRoom + (rest.map fun v => v.category).sum ≤ W := by show 2 * 0 + _ ≤ _; rw [hW]; omega
  obtain ⟨v, vm₁, ⟨U, L', k', n'⟩, -, Y', ⟨L, q, l1, l2, l3⟩, stp⟩ := Y.specialBack hx (y := y) hy1 (show (s.setVm vm0).vm.findClass own = _ from I.2.2.2.2.2.1) (mvT hZ w1) (mvT hZ w2) (mvT hZ wc) hy (hK vm0 hZ) (g := mkF m pc Ls st) rfl (by rw [hml]; exact hsz) (Steps.refl _) (a := a) (argsL := argsL) (rest := rest) hlen hst hW' (hb hby hd) (fun _ _ => ⟨has, eT, hc, hs⟩)
  dsimp only [Pt.U, Pt.locs, Pt.cells, Pt.slots] at Y' l1 l2 l3 q stp
  subst l1 l2 l3
  exact og (fun _ q => stp.trans q) (K U U.heap v L ⟨hx, hby, hml, rfl, hlk, vm0, _, Y', I.keep (hQ _ _ _ q).2 hsv (hQ _ _ _ q).1⟩ (hQ _ _ _ q).2 q)
theorem own_virtB (X : OSt Z EL a0 n0 h0 ws own bytes mx p l e R s m args below meth c sv T h k n) (pc' : Nat) {y z : MethodName} {C : String} {index W rc rs : Nat} {as' : Array Value} {ws' : List Addr} {Q : Option Value → Heap → List Loc → Prop} {a : Addr} {argsL rest : List Value} (hd : decode bytes pc = .ok (.invokevirtual index, 3)) (E : Exa Z h a C) (hnf : ∀ vm0, Z.Warmed39 (s.setVm vm0).vm → NotFace (s.setVm vm0) y)
    (hK : ∀ vm0, Z.Warmed39 (s.setVm vm0).vm → Back l R p e below (s.setVm vm0) args z 3 W (fun A a => a = as' ∧ A.U.heap = h ∧ A.cells + rc ≤ R.cells ∧ A.slots + rs ≤ R.slots) (fun A _ v B => ∃ L, Q v B.U.heap L ∧ B.locs = A.locs ++ L ∧ B.cells = A.cells + rc ∧ B.slots = A.slots + rs)) (hQ : ∀ v h' L, Q v h' L → Fr n0 L ∧ Keep h h' ws')
    (w1 : (Cond.methodLink own index y).before a0 Z = true) (w2 : (Cond.declares y).before a0 Z = true) (w3 : (Cond.selects C y z).before a0 Z = true) (w4 : (Cond.instanceMethod z).before a0 Z = true) (hy : y.cls ≠ "java/lang/invoke/MethodHandle" ∧ y.cls ≠ "java/lang/invoke/VarHandle")
    (hlen : ∀ sig, parseMethodDescriptor y.desc = some sig → argsL.length = sig.parameters.length) (hst : st = argsL.reverse ++ .ref a :: rest) (has : (.ref a :: argsL).toArray = as') (hsz : Ls.size = mx) (hW : (rest.map fun v => v.category).sum = W) (hc : k + rc ≤ R.cells) (hs : n + rs ≤ R.slots) (hsv : ∀ x ∈ ws', x ∈ sv) (hq : pc' = pc + 3)
    (K : ∀ (T' : State) (h' : Heap) (v : Option Value) (L : List Loc), OSt Z EL a0 n0 h0 ws own bytes mx p l e R s m args below meth c sv T' h' (k + rc) (n + rs) → Keep h h' ws' → Q v h' L → OGo p.tables e below P T' (mkF m pc' Ls (v.toList ++ rest))) : OGo p.tables e below P T (mkF m pc Ls st) := by
  subst hq
  obtain ⟨hx, hby, hml, eT, hlk, vm0, locs, Y, I⟩ := X
  have hZ : Z.Warmed39 (s.setVm vm0).vm := I.2.2.2.2.1
  have hW' : 2 * (mkF m pc Ls st).monitorRoom + (rest.map fun v => v.category).sum ≤ W := by show 2 * 0 + _ ≤ _; rw [hW]; omega
  obtain ⟨cq, kq, qa, qb, qc⟩ := isOf (s := s.setVm vm0) hZ eT E
  obtain ⟨v, vm₁, ⟨U, L', k', n'⟩, -, Y', ⟨L, q, l1, l2, l3⟩, stp⟩ := Y.virtualBack hx (y := y) (z := z) (show (s.setVm vm0).vm.findClass own = _ from I.2.2.2.2.2.1) (mvT hZ w1) (mvT hZ w2) (hnf vm0 hZ) (mvT hZ w3) (mvT hZ w4) hy (hK vm0 hZ) qa qc (g := mkF m pc Ls st) rfl (by rw [hml]; exact hsz) (Steps.refl _) (argsL := argsL) (rest := rest) hlen hst hW' (hb hby hd) (fun _ _ => ⟨has, eT, hc, hs⟩)
  dsimp only [Pt.U, Pt.locs, Pt.cells, Pt.slots] at Y' l1 l2 l3 q stp
  subst l1 l2 l3
  exact og (fun _ q => stp.trans q) (K U U.heap v L ⟨hx, hby, hml, rfl, hlk, vm0, _, Y', I.keep (hQ _ _ _ q).2 hsv (hQ _ _ _ q).1⟩ (hQ _ _ _ q).2 q)
theorem own_svb (X : OSt Z EL a0 n0 h0 ws own bytes mx p l e R s m args below meth c sv T h k n) {a : Addr} (ha : a ∈ sv) : n0 ≤ a ∧ a < h.size := by
  obtain ⟨-, -, -, -, -, _, _, -, -, -, -, -, -, -, -, -, -, -, q⟩ := X
  exact ⟨(q a ha).1, (q a ha).2.1⟩
theorem own_fitR {t : FieldType} {w : Value} (ht : t.isReference = true) (hw : w.isRef = true) : fits t w = true := by
  rcases ref_cases hw with rfl | ⟨a, rfl⟩ <;> cases t <;> first | rfl | cases ht
theorem own_sto {a y : Addr} {kb : ClassId} {ty : FieldType} {z : Int32} {vs : List Value} {dv : Value} {C : String} (A : Arv Z h a kb ty z vs dv) (O : Ovr Z kb C) (i : Ins Z h y C true) : Sto Z h a (.ref y) := by
  obtain ⟨cl, Ar, q, -⟩ := A
  exact Sto.ofV Ar q O i
theorem own_face (X : OSt Z EL a0 n0 h0 ws own bytes mx p l e R s m args below meth c sv T h k n) (pc' : Nat) {y z : MethodName} {C : String} {index count maxL W : Nat} {ret : Option FieldType} {rm : Room} {as' : Array Value} {ws' : List Addr} {Q : Option Value → Heap → Prop} {bc : ByteArray} {a : Addr} {argsL rest : List Value} (hd : decode bytes pc = .ok (.invokeinterface index count, 5)) (E : Exa Z h a C) (hM : OMet l Z EL n0 z [Jvm.Cond.code z bc maxL ret] rm as' h ws' Q) (w1 : (Cond.methodLink own index y).before a0 Z = true) (w2 : (Cond.declares y).before a0 Z = true) (w3 : (Cond.interfaceMethod y.cls y.cls y.name y.desc).before a0 Z = true) (w4 : (Cond.selects C y z).before a0 Z = true) (w5 : (Cond.instanceMethod z).before a0 Z = true) (w6 : (Cond.publicMethod z).before a0 Z = true) (w7 : (Cond.unhidden C y.name y.desc).before a0 Z = true) (w8 : (Cond.castable C y.cls).before a0 Z = true) (wz : (Cond.initialized z.cls).before a0 Z = true) (wc : (Cond.code z bc maxL ret).before a0 Z = true) (hy : y.cls ≠ "java/lang/invoke/MethodHandle" ∧ y.cls ≠ "java/lang/invoke/VarHandle")
    (hlen : ∀ sig, parseMethodDescriptor y.desc = some sig → argsL.length = sig.parameters.length) (hst : st = argsL.reverse ++ .ref a :: rest) (has : (.ref a :: argsL).toArray = as') (hsz : Ls.size = mx) (hW : (rest.map fun v => v.category).sum = W) (hf : rm.frames + 1 ≤ R.frames) (hl : W + (maxL + 11) + rm.locals ≤ R.locals) (hc : k + rm.cells ≤ R.cells) (hs : n + rm.slots ≤ R.slots) (hsv : ∀ x ∈ ws', x ∈ sv) (hq : pc' = pc + 5)
    (K : ∀ (T' : State) (h' : Heap) (v : Option Value), OSt Z EL a0 n0 h0 ws own bytes mx p l e R s m args below meth c sv T' h' (k + rm.cells) (n + rm.slots) → Keep h h' ws' → Q v h' → OGo p.tables e below P T' (mkF m pc' Ls (v.toList ++ rest))) : OGo p.tables e below P T (mkF m pc Ls st) := by
  subst hq
  obtain ⟨hx, hby, hml, eT, hlk, vm0, locs, Y, I⟩ := X
  have I0 := I
  obtain ⟨b1, b2, b3, b4, b5, b6, b7, b8, b9, b10, b11⟩ := I0
  have hS : ∀ x ∈ ws', x < h.size ∧ Safe Z EL vm0 h x := fun x hx => ⟨(b11 x (hsv x hx)).2.1, (b11 x (hsv x hx)).2.2.2⟩
  have hZ : Z.Warmed39 (s.setVm vm0).vm := b5
  have hW' : 2 * (mkF m pc Ls st).monitorRoom + (rest.map fun v => v.category).sum ≤ W := by show 2 * 0 + _ ≤ _; rw [hW]; omega
  obtain ⟨cq, kq, qa, qb, qc⟩ := isOf (s := s.setVm vm0) hZ eT E
  by_cases hnil : EL = []
  · obtain ⟨v, vm₁, ⟨U, L', k', n'⟩, -, Y', ⟨L, ⟨q1, q2, q3⟩, l1, l2, l3⟩, stp⟩ := Y.interfaceBack hx (xi := y) (y := z) (show (s.setVm vm0).vm.findClass own = _ from b6) (mvT hZ w1 (by first | rfl | decide | simp [Cond.onTables, Cond.keepsFace, Cond.keeps, Cond.steady, Cond.faceAtom, hy.1, hy.2])) (mvT hZ w2 (by first | rfl | decide | simp [Cond.onTables, Cond.keepsFace, Cond.keeps, Cond.steady, Cond.faceAtom, hy.1, hy.2])) (mvT hZ w3 (by first | rfl | decide | simp [Cond.onTables, Cond.keepsFace, Cond.keeps, Cond.steady, Cond.faceAtom, hy.1, hy.2])) (mvT hZ w4 (by first | rfl | decide | simp [Cond.onTables, Cond.keepsFace, Cond.keeps, Cond.steady, Cond.faceAtom, hy.1, hy.2])) (mvT hZ w5 (by first | rfl | decide | simp [Cond.onTables, Cond.keepsFace, Cond.keeps, Cond.steady, Cond.faceAtom, hy.1, hy.2])) (mvT hZ w6 (by first | rfl | decide | simp [Cond.onTables, Cond.keepsFace, Cond.keeps, Cond.steady, Cond.faceAtom, hy.1, hy.2])) (mvT hZ w7 (by first | rfl | decide | simp [Cond.onTables, Cond.keepsFace, Cond.keeps, Cond.steady, Cond.faceAtom, hy.1, hy.2])) (mvT hZ w8 (by first | rfl | decide | simp [Cond.onTables, Cond.keepsFace, Cond.keeps, Cond.steady, Cond.faceAtom, hy.1, hy.2])) hy (own_payN hnil hM b5 wc wz hf hl b7 b8.1 hS) qa qb qc (g := mkF m pc Ls st) rfl (by rw [hml]; exact hsz) (Steps.refl _) (argsL := argsL) (rest := rest) hlen hst hW' (hb hby hd) (fun _ _ => ⟨has, eT, hc, hs⟩)
    dsimp only [Pt.U, Pt.locs, Pt.cells, Pt.slots] at Y' l1 l2 l3 q1 q2 q3 stp
    subst l1 l2 l3
    exact og (fun _ q => stp.trans q) (K U U.heap v ⟨hx, hby, hml, rfl, hlk, vm0, _, Y', I.keep q2 hsv q1⟩ q2 q3)
  · obtain ⟨v, vm₁, ⟨U, L', k', n'⟩, -, Y', S', g', ⟨L, ⟨q1, q2, q3⟩, l1, l2, l3, C⟩, stp⟩ := Y.interfaceBackS hx (xi := y) (y := z) (show (s.setVm vm0).vm.findClass own = _ from b6) (mvT hZ w1 (by first | rfl | decide | simp [Cond.onTables, Cond.keepsFace, Cond.keeps, Cond.steady, Cond.faceAtom, hy.1, hy.2])) (mvT hZ w2 (by first | rfl | decide | simp [Cond.onTables, Cond.keepsFace, Cond.keeps, Cond.steady, Cond.faceAtom, hy.1, hy.2])) (mvT hZ w3 (by first | rfl | decide | simp [Cond.onTables, Cond.keepsFace, Cond.keeps, Cond.steady, Cond.faceAtom, hy.1, hy.2])) (mvT hZ w4 (by first | rfl | decide | simp [Cond.onTables, Cond.keepsFace, Cond.keeps, Cond.steady, Cond.faceAtom, hy.1, hy.2])) (mvT hZ w5 (by first | rfl | decide | simp [Cond.onTables, Cond.keepsFace, Cond.keeps, Cond.steady, Cond.faceAtom, hy.1, hy.2])) (mvT hZ w6 (by first | rfl | decide | simp [Cond.onTables, Cond.keepsFace, Cond.keeps, Cond.steady, Cond.faceAtom, hy.1, hy.2])) (mvT hZ w7 (by first | rfl | decide | simp [Cond.onTables, Cond.keepsFace, Cond.keeps, Cond.steady, Cond.faceAtom, hy.1, hy.2])) (mvT hZ w8 (by first | rfl | decide | simp [Cond.onTables, Cond.keepsFace, Cond.keeps, Cond.steady, Cond.faceAtom, hy.1, hy.2])) hy (own_payW hM b5 wc wz hf hl b7 b8.1 hS) qa qb qc (g := mkF m pc Ls st) rfl (by rw [hml]; exact hsz) (Steps.refl _) (argsL := argsL) (rest := rest) hlen hst hW' (hb hby hd) (fun _ _ => ⟨has, eT, hc, hs⟩)
    dsimp only [Pt.U, Pt.locs, Pt.cells, Pt.slots] at Y' l1 l2 l3 q1 q2 q3 stp S' g' C
    subst l1 l2 l3
    exact og (fun _ q => stp.trans q) (K U U.heap v ⟨hx, hby, hml, rfl, hlk, U.vm, _, Y', I.call q2 hsv q1 C S' (fun q => absurd q hnil)⟩ q2 q3)
theorem own_ldcO (X : OSt Z EL a0 n0 h0 ws own bytes mx p l e R s m args below meth c sv T h k n) (pc' : Nat) {index cap : Nat} {text : String} (hd : decode bytes pc = .ok (.ldc index, 2)) (hne : EL ≠ []) (w : (Cond.stringLink own index text).before a0 Z = true) (wS : ∀ a ∈ Bundle.stringAtoms, a.before a0 Z = true) (hcap : 4 * text.toList.length ≤ cap) (hbig : cap ≤ 536870912) (hc : k + 2 ≤ R.cells) (hl : n + (cap + 4) ≤ R.slots) (hq : pc' = pc + 2)
    (K : ∀ (T' : State) (h' : Heap) (a : Addr), OSt Z EL a0 n0 h0 ws own bytes mx p l e R s m args below meth c sv T' h' (k + 2) (n + (cap + 4)) → Keep h h' [] → OGo p.tables e below P T' (mkF m pc' Ls (.ref a :: st))) : OGo p.tables e below P T (mkF m pc Ls st) := by
  subst hq
  obtain ⟨hx, hby, hml, eT, hlk, vm0, locs, Y, I⟩ := X
  have I0 := I
  obtain ⟨b1, b2, b3, ⟨k0, b4, b4'⟩, b5, b6, b7, b8, b9, b10, b11⟩ := I0
  obtain ⟨a, T', h', k1, Y', e', E, S', hk', hZ', hown', C, -, stp⟩ := ldcOH Y hx b5 b6 w wS eT b4 b4' b7 b8.1 (g := mkF m pc Ls st) rfl (hb hby hd) hcap hbig hc hl
  have hZ' : Z.Warmed39 T'.vm := hZ'
  refine og stp (K T' h' a ⟨hx, hby, hml, e', hlk, T'.vm, locs, Y', b1, b2.ext E, b3.ext E, ⟨k1, S', hk'⟩, hZ', hown', b7, b8.trans C, fun q => absurd q hne, b10, fun x hx => ?_⟩ ((Keep.refl _ _).ext E))
  exact ⟨(b11 x hx).1, Nat.lt_of_lt_of_le (b11 x hx).2.1 E.1, (b11 x hx).2.2.1, C.safe (b11 x hx).2.1 (b11 x hx).2.2.2⟩
theorem own_ldcR (X : OSt Z EL a0 n0 h0 ws own bytes mx p l e R s m args below meth c sv T h k n) (pc' : Nat) {index cap : Nat} {text : String} {vs : List Value} {z : Int32} (hd : decode bytes pc = .ok (.ldc index, 2)) (hmem : (own, index) ∈ EL) (w : (Cond.stringLink own index text).before a0 Z = true) (wS : ∀ a ∈ Bundle.stringAtoms, a.before a0 Z = true) (ht : (∀ c ∈ text.toList, c.toNat < 256) ∧ text.toList.map (fun c => Value.int (Jvm.Lit.byteI c.toNat.toUInt16)) = vs) (hz : ¬ z < 0) (hlz : z.toNatClampNeg = vs.length) (hcap : 4 * text.toList.length ≤ cap) (hbig : cap ≤ 536870912) (hc : k + 2 ≤ R.cells) (hl : n + (cap + 4) ≤ R.slots) (hq : pc' = pc + 2)
    (K : ∀ (T' : State) (h' : Heap) (a b : Addr) (kb : ClassId), OSt Z EL a0 n0 h0 ws own bytes mx p l e R s m args below meth c sv T' h' (k + 2) (n + (cap + 4)) → Keep h h' [] → Exa Z h' a "java/lang/String" → Fld Z h' a "java/lang/String" "coder" "B" (.int 0) → Fld Z h' a "java/lang/String" "value" "[B" (.ref b) → Arv Z h' b kb .byte z vs (.int 0) → (∀ x ∈ sv, x ≠ a ∧ x ≠ b) → OGo p.tables e below P T' (mkF m pc' Ls (.ref a :: st))) : OGo p.tables e below P T (mkF m pc Ls st) := by
  subst hq
  obtain ⟨hx, hby, hml, eT, hlk, vm0, locs, Y, I⟩ := X
  have I0 := I
  obtain ⟨b1, b2, b3, ⟨k0, b4, b4'⟩, b5, b6, b7, b8, b9, b10, b11⟩ := I0
  obtain ⟨a, T', h', k1, b, kb, Y', e', E, S', hk', hZ', hown', r1, r2, r3, r4, r5, r6, C, -, far, stp⟩ := ldcCH Y hx b5 b6 w wS eT b4 b4' b7 hmem b8.1 ht hz hlz (g := mkF m pc Ls st) rfl (hb hby hd) hcap hbig hc hl
  have hZ' : Z.Warmed39 T'.vm := hZ'
  have sf : ∀ x ∈ sv, Safe Z EL T'.vm h' x := fun x hx => C.safe (b11 x hx).2.1 (b11 x hx).2.2.2
  refine og stp (K T' h' a b kb ⟨hx, hby, hml, e', hlk, T'.vm, locs, Y', b1, b2.ext E, b3.ext E, ⟨k1, S', hk'⟩, hZ', hown', b7, b8.trans C, fun q => ?_, b10, fun x hx => ?_⟩ ((Keep.refl _ _).ext E) r1 r2 r3 r4 fun x hx => far x (sf x hx))
  · rw [q] at hmem; cases hmem
  · exact ⟨(b11 x hx).1, Nat.lt_of_lt_of_le (b11 x hx).2.1 E.1, (b11 x hx).2.2.1, sf x hx⟩
theorem own_n0 (X : OSt Z EL a0 n0 h0 ws own bytes mx p l e R s m args below meth c sv T h k n) : n0 ≤ h.size := X.old.1 ▸ X.old.2.1
theorem own_svE (X : OSt Z EL a0 n0 h0 ws own bytes mx p l e R s m args below meth c sv T h k n) {r : Addr} {C : String} (E : Exa Z h r C) (h1 : C ≠ "java/lang/String") (h2 : C ≠ "[B") (hn : n0 ≤ r) (hg : h0.size ≤ r) : OSt Z EL a0 n0 h0 ws own bytes mx p l e R s m args below meth c (r :: sv) T h k n := by
  obtain ⟨a1, a2, a3, a4, a5, vm0, locs, Y, b1, b2, b3, b4, b5, b6, b7, b8, b9, b10, b11⟩ := X
  refine ⟨a1, a2, a3, a4, a5, vm0, locs, Y, b1, b2, b3, b4, b5, b6, b7, b8, b9, b10, fun x hx => ?_⟩
  rcases List.mem_cons.mp hx with rfl | hx
  · exact ⟨hn, E.lt, Or.inr hg, Safe.exa b5.alike E h1 h2⟩
  · exact b11 x hx
theorem own_svA (X : OSt Z EL a0 n0 h0 ws own bytes mx p l e R s m args below meth c sv T h k n) {r : Addr} {kb : ClassId} {ty : FieldType} {z : Int32} {vs : List Value} {dv : Value} (A : Arv Z h r kb ty z vs dv) (h1 : ty ≠ .byte) (hn : n0 ≤ r) (hg : h0.size ≤ r) : OSt Z EL a0 n0 h0 ws own bytes mx p l e R s m args below meth c (r :: sv) T h k n := by
  obtain ⟨a1, a2, a3, a4, a5, vm0, locs, Y, b1, b2, b3, b4, b5, b6, b7, b8, b9, b10, b11⟩ := X
  refine ⟨a1, a2, a3, a4, a5, vm0, locs, Y, b1, b2, b3, b4, b5, b6, b7, b8, b9, b10, fun x hx => ?_⟩
  rcases List.mem_cons.mp hx with rfl | hx
  · exact ⟨hn, A.lt, Or.inr hg, Safe.arv b5.alike A h1⟩
  · exact b11 x hx
def OFar (Z : State) (h : Heap) (B : Nat) (y : Addr) : Prop := B ≤ y ∨ ∃ (C : String) (kk : Nat) (a0 : Array Value), Exa Z h y C ∧ C ≠ "java/lang/String" ∧ (Jvm.Cond.instantiable C kk).before a0 Z = true
def OStr (Z : State) (h : Heap) (x : Addr) (cs : List Int32) (B : Nat) : Prop := ∃ (t : Addr) (kb : ClassId) (cd N : Int32) (vs : List Value), Exa Z h x "java/lang/String" ∧ Fld Z h x "java/lang/String" "coder" "B" (.int cd) ∧ Fld Z h x "java/lang/String" "value" "[B" (.ref t) ∧ Arv Z h t kb .byte N vs (.int 0) ∧ StrChars.Road.CodA cs cd N vs ∧ (∀ c ∈ cs, ¬ c < 0 ∧ ¬ (65535 : Int32) < c) ∧ cs.length ≤ 4000 ∧ x < B ∧ t < B
theorem OStr.exa {Z : State} {h : Heap} {x : Addr} {cs : List Int32} {B : Nat} (F : OStr Z h x cs B) : Exa Z h x "java/lang/String" := by obtain ⟨t, kb, cd, N, vs, r, -⟩ := F; exact r
theorem OStr.lt {Z : State} {h : Heap} {x : Addr} {cs : List Int32} {B : Nat} (F : OStr Z h x cs B) : x < h.size := F.exa.lt
theorem OStr.ltB {Z : State} {h : Heap} {x : Addr} {cs : List Int32} {B : Nat} (F : OStr Z h x cs B) : x < B := by obtain ⟨t, kb, cd, N, vs, -, -, -, -, -, -, -, r, -⟩ := F; exact r
theorem OStr.len {Z : State} {h : Heap} {x : Addr} {cs : List Int32} {B : Nat} (F : OStr Z h x cs B) : cs.length ≤ 4000 := by obtain ⟨t, kb, cd, N, vs, -, -, -, -, -, -, r, -, -⟩ := F; exact r
theorem OStr.top {Z : State} {h : Heap} {x : Addr} {cs : List Int32} {B : Nat} (F : OStr Z h x cs B) : OStr Z h x cs h.size := by
  obtain ⟨t, kb, cd, N, vs, r1, r2, r3, r4, r5, r6, r7, -, -⟩ := F
  exact ⟨t, kb, cd, N, vs, r1, r2, r3, r4, r5, r6, r7, r1.lt, r4.lt⟩
theorem OStr.keep {Z : State} {h h' : Heap} {x : Addr} {cs : List Int32} {B : Nat} {ws : List Addr} (F : OStr Z h x cs B) (K : Keep h h' ws) (q : ∀ y ∈ ws, OFar Z h B y) : OStr Z h' x cs B := by
  obtain ⟨t, kb, cd, N, vs, r1, r2, r3, r4, r5, r6, r7, r8, r9⟩ := F
  have nx : x ∉ ws := fun hx => by
    rcases q x hx with u | ⟨C, kk, a0, E, hC, -⟩
    · exact absurd r8 (Nat.not_lt.mpr u)
    · exact ne_exa r1 E (Ne.symm hC) rfl
  have nt : t ∉ ws := fun hx => by
    rcases q t hx with u | ⟨C, kk, a0, E, hC, wi⟩
    · exact absurd r9 (Nat.not_lt.mpr u)
    · obtain ⟨c, A, -⟩ := r4
      exact ne_arr E wi A rfl
  exact ⟨t, kb, cd, N, vs, r1.keep K, r2.keep K nx, r3.keep K nx, r4.keep K nt, r5, r6, r7, r8, r9⟩
theorem own_mkStr {Z : State} {h : Heap} {x t : Addr} {kb : ClassId} {cs bs : List Int32} {N : Int32} {n : Nat} (E : Exa Z h x "java/lang/String") (C : Fld Z h x "java/lang/String" "coder" "B" (.int 0)) (V : Fld Z h x "java/lang/String" "value" "[B" (.ref t)) (A : Arv Z h t kb .byte N (bs.map Value.int) (.int 0)) (hb : bs = cs.map (fun c => c.toInt8.toInt32)) (hp : ∀ c ∈ cs, ¬ c < 0 ∧ ¬ (255 : Int32) < c) (hn : cs.length = n) (hN : N = Int32.ofNat n) (hl : n ≤ 4000) : OStr Z h x cs h.size := by
  subst hn hN hb
  exact ⟨t, kb, 0, _, _, E, C, V, A, StrChars.Road.codOf rfl (fun c hc => (hp c hc).2), fun c hc => ⟨(hp c hc).1, own_up8 (hp c hc).2⟩, hl, E.lt, A.lt⟩
theorem OStr.latin  {x : Addr} {cs : List Int32} {B : Nat} (F : OStr Z h x cs B) (hl : ∀ c ∈ cs, ¬ (255 : Int32) < c) : ∃ (t : Addr) (kb : ClassId) (N : Int32) (vs : List Value), Exa Z h x "java/lang/String" ∧ Fld Z h x "java/lang/String" "coder" "B" (.int 0) ∧ Fld Z h x "java/lang/String" "value" "[B" (.ref t) ∧ Arv Z h t kb .byte N vs (.int 0) ∧ StrChars.Road.CodA cs 0 N vs ∧ (∀ c ∈ cs, ¬ c < 0 ∧ ¬ (65535 : Int32) < c) ∧ cs.length ≤ 4000 := by
  obtain ⟨t, kb, cd, N, vs, r1, r2, r3, r4, r5, r6, r7, -, -⟩ := F
  rcases r5 with ⟨rfl, q⟩ | ⟨rfl, -, -, c, hc, q⟩
  · exact ⟨t, kb, N, vs, r1, r2, r3, r4, Or.inl ⟨rfl, q⟩, r6, r7⟩
  · exact absurd q (hl c hc)
theorem own_strLen  (X : OSt Z EL a0 n0 h0 ws own bytes mx p l e R s m args below meth c sv T h k n) (pc' : Nat) {index W : Nat} {x : Addr} {cs : List Int32} {B1 : Nat} {z0 : Int32} {rest : List Value} (hd : decode bytes pc = .ok (.invokevirtual index, 3)) (S1 : OStr Z h x cs B1) (hwq : ∀ d ∈ StrChars.Road.wordsLen, d.before a0 Z = true) (wi : (Jvm.Cond.instantiable "java/lang/String" 4).before a0 Z = true) (hcs : Sta Z Z.heap "java/lang/String" "COMPACT_STRINGS" "Z" (.int z0)) (hz : ¬ z0 = 0)
    (w1 : (Jvm.Cond.methodLink own index (⟨"java/lang/String", "length", "()I"⟩ : MethodName)).before a0 Z = true) (w2 : (Jvm.Cond.declares (⟨"java/lang/String", "length", "()I"⟩ : MethodName)).before a0 Z = true) (w3 : (Jvm.Cond.selects "java/lang/String" (⟨"java/lang/String", "length", "()I"⟩ : MethodName) (⟨"java/lang/String", "length", "()I"⟩ : MethodName)).before a0 Z = true) (w4 : (Jvm.Cond.instanceMethod (⟨"java/lang/String", "length", "()I"⟩ : MethodName)).before a0 Z = true)
    (hsz : Ls.size = mx) (hW : (rest.map fun v => v.category).sum = W) (hfr : 2 ≤ R.frames) (hlo : W + 25 ≤ R.locals) (hc : k ≤ R.cells) (hs : n ≤ R.slots) (hq : pc' = pc + 3)
    (K : ∀ (T' : State), OSt Z EL a0 n0 h0 ws own bytes mx p l e R s m args below meth c sv T' h k n → OGo p.tables e below P T' (mkF m pc' Ls (.int (Int32.ofNat cs.length) :: rest))) : OGo p.tables e below P T (mkF m pc Ls (.ref x :: rest)) := by
  obtain ⟨t1, k1, cd1, N1, vs1, E1, C1, V1, A1, c1, b1, l1, -, -⟩ := S1
  have O1 := X.old
  have hpd : parseMethodDescriptor "()I" = some ⟨[], some .int⟩ := by decide +kernel
  refine own_virtB X pc' (a := x) (argsL := []) (rest := rest) (Q := fun v h' L => (v = some (.int (Int32.ofNat cs.length)) ∧ L = [] ∧ h' = h)) hd E1 (fun _ hZ => notFace_of_selects (args := #[]) (mvT hZ w3)) (fun vm0 hZ => StrChars.Road.lenW (W := W) hZ hwq (kI := 4) wi E1 V1 C1 A1 c1 b1 (hcs.ext O1.2) hz l1 hfr hlo) (ws' := []) (fun v h' L q => ⟨by obtain ⟨-, rfl, -⟩ := q; exact Fr.nil _, by obtain ⟨-, -, rfl⟩ := q; exact Keep.refl _ _⟩) w1 w2 w3 w4 (by decide) (lenOf hpd rfl) rfl rfl hsz hW hc hs all0 hq ?_
  rintro T' h' v L X' K' ⟨rfl, -, rfl⟩
  exact K T' X'
def own_eqb (cs ds : List Int32) : Int32 := if cs = ds then 1 else 0
theorem own_eqb01 (cs ds : List Int32) : own_eqb cs ds = 0 ∨ own_eqb cs ds = 1 := by unfold own_eqb; split <;> simp
theorem own_eqb0 {cs ds : List Int32} : own_eqb cs ds = 0 ↔ ¬ cs = ds := by unfold own_eqb; split <;> simp_all
theorem own_strEq  (X : OSt Z EL a0 n0 h0 ws own bytes mx p l e R s m args below meth c sv T h k n) (pc' : Nat) {index W : Nat} {x y : Addr} {cs ds : List Int32} {B1 B2 : Nat} {z0 : Int32} {rest : List Value} (hd : decode bytes pc = .ok (.invokevirtual index, 3)) (S1 : OStr Z h x cs B1) (S2 : OStr Z h y ds B2) (hwq : ∀ d ∈ StrChars.Road.wordsEq, d.before a0 Z = true) (wi : (Jvm.Cond.instantiable "java/lang/String" 4).before a0 Z = true) (hcs : Sta Z Z.heap "java/lang/String" "COMPACT_STRINGS" "Z" (.int z0)) (hz : ¬ z0 = 0)
    (w1 : (Jvm.Cond.methodLink own index (⟨"java/lang/String", "equals", "(Ljava/lang/Object;)Z"⟩ : MethodName)).before a0 Z = true) (w2 : (Jvm.Cond.declares (⟨"java/lang/String", "equals", "(Ljava/lang/Object;)Z"⟩ : MethodName)).before a0 Z = true) (w3 : (Jvm.Cond.selects "java/lang/String" (⟨"java/lang/String", "equals", "(Ljava/lang/Object;)Z"⟩ : MethodName) (⟨"java/lang/String", "equals", "(Ljava/lang/Object;)Z"⟩ : MethodName)).before a0 Z = true) (w4 : (Jvm.Cond.instanceMethod (⟨"java/lang/String", "equals", "(Ljava/lang/Object;)Z"⟩ : MethodName)).before a0 Z = true)
    (hsz : Ls.size = mx) (hW : (rest.map fun v => v.category).sum = W) (hfr : 2 ≤ R.frames) (hlo : W + 28 ≤ R.locals) (hc : k ≤ R.cells) (hs : n ≤ R.slots) (hq : pc' = pc + 3)
    (K : ∀ (T' : State), OSt Z EL a0 n0 h0 ws own bytes mx p l e R s m args below meth c sv T' h k n → OGo p.tables e below P T' (mkF m pc' Ls (.int (own_eqb cs ds) :: rest))) : OGo p.tables e below P T (mkF m pc Ls (.ref y :: .ref x :: rest)) := by
  obtain ⟨t1, k1, cd1, N1, vs1, E1, C1, V1, A1, c1, b1, l1, -, -⟩ := S1
  obtain ⟨t2, k2, cd2, N2, vs2, E2, C2, V2, A2, c2, b2, l2, -, -⟩ := S2
  have O1 := X.old
  have hpd : parseMethodDescriptor "(Ljava/lang/Object;)Z" = some ⟨[.object "java/lang/Object"], some .boolean⟩ := by decide +kernel
  refine own_virtB X pc' (a := x) (argsL := [.ref y]) (rest := rest) (Q := fun v h' L => (((v = some (.int 1) ∧ cs = ds) ∨ (v = some (.int 0) ∧ ¬ cs = ds)) ∧ L = [] ∧ h' = h)) hd E1 (fun _ hZ => notFace_of_selects (args := #[]) (mvT hZ w3)) (fun vm0 hZ => StrChars.Road.eqW (W := W) hZ hwq (kI := 4) wi E1 V1 C1 A1 c1 b1 l1 E2 V2 C2 A2 c2 b2 l2 (hcs.ext O1.2) hz hfr hlo) (ws' := []) (fun v h' L q => ⟨by obtain ⟨-, rfl, -⟩ := q; exact Fr.nil _, by obtain ⟨-, -, rfl⟩ := q; exact Keep.refl _ _⟩) w1 w2 w3 w4 (by decide) (lenOf hpd rfl) rfl rfl hsz hW hc hs all0 hq ?_
  rintro T' h' v L X' K' ⟨q1, -, rfl⟩
  rcases q1 with ⟨rfl, q⟩ | ⟨rfl, q⟩
  · have e : own_eqb cs ds = 1 := if_pos q
    have := K T' X'
    rw [e] at this; exact this
  · have e : own_eqb cs ds = 0 := if_neg q
    have := K T' X'
    rw [e] at this; exact this
theorem own_svB (X : OSt Z EL a0 n0 h0 ws own bytes mx p l e R s m args below meth c sv T h k n) {r : Addr} {kb : ClassId} {z : Int32} {vs : List Value} {dv : Value} (A : Arv Z h r kb .byte z vs dv) (hT : ∀ q ∈ EL, ∃ text : String, (Cond.stringLink q.1 q.2 text).before a0 Z = true ∧ (∀ c ∈ text.toList, c.toNat < 256) ∧ text.toList.length ≠ z.toNatClampNeg) (hn : n0 ≤ r) (hg : h0.size ≤ r) : OSt Z EL a0 n0 h0 ws own bytes mx p l e R s m args below meth c (r :: sv) T h k n := by
  obtain ⟨a1, a2, a3, a4, a5, vm0, locs, Y, b1, b2, b3, b4, b5, b6, b7, b8, b9, b10, b11⟩ := X
  refine ⟨a1, a2, a3, a4, a5, vm0, locs, Y, b1, b2, b3, b4, b5, b6, b7, b8, b9, b10, fun x hx => ?_⟩
  rcases List.mem_cons.mp hx with rfl | hx
  · refine ⟨hn, A.lt, Or.inr hg, fun B => ?_⟩
    obtain ⟨cl, A1, -, S, -⟩ := A
    obtain ⟨A1, ⟨-, kA, hkA, compA, hkindA⟩, -⟩ := A1
    obtain ⟨kA', hkA', ekA⟩ := b5.alike.2.2 _ _ hkA
    obtain ⟨pr, hp, u, a, hbk, q, -, F, e1 | e1⟩ := B
    · subst e1
      cases (show h[q.sa]? = some q.sC from F.ha).symm.trans A1
      obtain ⟨cS, ⟨-, -, e2⟩, ⟨kS, g1, g2, -⟩, -⟩ := F
      subst e2
      cases (show vm0.classes[q.sC.cls]? = some kS from g1).symm.trans hkA'
      rw [ekA] at g2
      have := hkindA.symm.trans g2
      cases this
    · subst e1
      cases (show h[q.sd]? = some q.SA from F.hd).symm.trans A1
      obtain ⟨cS, -, -, -, hbyt⟩ := F
      obtain ⟨text, wl, ht, hne⟩ := hT pr hp
      obtain ⟨c', k', cf, i, hc', hk', hcf', hpool, hu, -⟩ := hbk
      have wl' : (Cond.stringLink pr.1 pr.2 text).before a0 (Wst Z vm0 h) = true := mvS (s := { Z with heap := h }) b5 wl
      obtain ⟨k2, cf0, i0, units0, hk, hcf, hp0, hu0, -, htext, -⟩ := Cond.stringLink_spec (s := Wst Z vm0 h) hc' wl'
      cases hk'.symm.trans hk
      cases hcf'.symm.trans hcf
      cases hpool.symm.trans hp0
      cases hu.symm.trans hu0
      have hlat := Jvm.ClassFile.lat_of_text htext ht
      have e3 := congrArg List.length (Jvm.ClassFile.units_of_text htext ht)
      have hsz : q.SA.slots.size = u.size := by rw [hbyt, Jvm.Free.SBG.stringBytes_lat hlat]; simp
      refine hne ?_
      rw [← S, hsz]
      simpa using e3.symm
  · exact b11 x hx
theorem own_txc {Z : State} {a0 : Array Value} {EL : List (String × Nat)} {own text : String} {index n : Nat} (w : (Cond.stringLink own index text).before a0 Z = true) (ht : ∀ c ∈ text.toList, c.toNat < 256) (hl : text.toList.length ≠ n) (E : ∀ q ∈ EL, ∃ text : String, (Cond.stringLink q.1 q.2 text).before a0 Z = true ∧ (∀ c ∈ text.toList, c.toNat < 256) ∧ text.toList.length ≠ n) : ∀ q ∈ (own, index) :: EL, ∃ text : String, (Cond.stringLink q.1 q.2 text).before a0 Z = true ∧ (∀ c ∈ text.toList, c.toNat < 256) ∧ text.toList.length ≠ n := fun q hq => by
  rcases List.mem_cons.mp hq with rfl | hq
  · exact ⟨text, w, ht, hl⟩
  · exact E q hq
theorem own_neA {a b : Addr} {C : String} {kk : Nat} {kb : ClassId} {ty : FieldType} {z : Int32} {vs : List Value} {dv : Value} (E : Exa Z h a C) (wi : (Jvm.Cond.instantiable C kk).before a0 Z = true) (A : Arv Z h b kb ty z vs dv) : a ≠ b := by
  obtain ⟨c, A, -⟩ := A
  exact ne_arr E wi A
theorem own_neAA {a b : Addr} {k1 k2 : ClassId} {t1 t2 : FieldType} {z1 z2 : Int32} {v1 v2 : List Value} {d1 d2 : Value} (A : Arv Z h a k1 t1 z1 v1 d1) (B : Arv Z h b k2 t2 z2 v2 d2) (hn : t1 ≠ t2) : a ≠ b := fun e => by
  subst e
  obtain ⟨c1, A, -⟩ := A
  obtain ⟨c2, B, -⟩ := B
  cases A.1.symm.trans B.1
  obtain ⟨-, kA, hkA, compA, hkindA⟩ := A.2.1
  obtain ⟨-, kB, hkB, compB, hkindB⟩ := B.2.1
  cases hkA.symm.trans hkB
  have := hkindA.symm.trans hkindB
  injection this with _ e
  exact hn e
theorem own_cp (X : OSt Z EL a0 n0 h0 ws own bytes mx p l e R s m args below meth c sv T h k n) (pc' : Nat) {index W : Nat} {a b : Addr} {ka kd : ClassId} {ty : FieldType} {z z' sp dp nn : Int32} {vs vd us : List Value} {dv dd : Value} {rest : List Value} (hd : decode bytes pc = .ok (.invokestatic index, 3)) (A : Arv Z h a ka ty z vs dv) (B : Arv Z h b kd ty z' vd dd) (hty : refKind ty = false) (ha : b ∈ sv)
    (w1 : (Cond.methodLink own index Jvm.Stand.acN).before a0 Z = true) (w2 : (Cond.native Jvm.Stand.acN).before a0 Z = true) (w3 : (Cond.static Jvm.Stand.acN).before a0 Z = true) (w4 : (Cond.initialized "java/lang/System").before a0 Z = true)
    (h1 : ¬ sp < 0) (h2 : ¬ dp < 0) (h3 : ¬ nn < 0) (h4 : sp.toNatClampNeg + nn.toNatClampNeg ≤ z.toNatClampNeg) (h5 : dp.toNatClampNeg + nn.toNatClampNeg ≤ z'.toNatClampNeg) (hus : us = (List.range nn.toNatClampNeg).map fun i => vs.getD (sp.toNatClampNeg + i) dv) (hl : dp.toNatClampNeg + nn.toNatClampNeg ≤ vd.length)
    (hsz : Ls.size = mx) (hW : (rest.map fun v => v.category).sum = W) (hf : 1 ≤ R.frames) (hlo : W + (nativeFrameWords "java/lang/System" "arraycopy" 5 + 11) ≤ R.locals) (hq : pc' = pc + 3)
    (K : ∀ (T' : State) (h' : Heap), OSt Z EL a0 n0 h0 ws own bytes mx p l e R s m args below meth c sv T' h' k n → Keep h h' [b] → Arv Z h' b kd ty z' (vd.take dp.toNatClampNeg ++ us ++ vd.drop (dp.toNatClampNeg + nn.toNatClampNeg)) dd → OGo p.tables e below P T' (mkF m pc' Ls rest)) : OGo p.tables e below P T (mkF m pc Ls (.int nn :: .int dp :: .ref b :: .int sp :: .ref a :: rest)) := by
  subst hq
  obtain ⟨hx, hby, hml, eT, hlk, vm0, locs, Y, I⟩ := X
  have I0 := I
  obtain ⟨b1, b2, b3, b4, b5, b6, b7, b8, b9, b10, b11⟩ := I0
  obtain ⟨T', h', L, Y', e', N', Kp, B', stp⟩ := cpA Y hx (show Z.Warmed39 (s.setVm vm0).vm from b5) (show (s.setVm vm0).vm.findClass own = _ from b6) w1 w2 w3 w4 eT A B (Or.inl ⟨rfl, hty⟩) h1 h2 h3 h4 h5 hus hl b10 (b11 b ha).1 (g := mkF m pc Ls (.int nn :: .int dp :: .ref b :: .int sp :: .ref a :: rest)) rfl (by rw [hml]; exact hsz) rfl (hb hby hd) hf (W := W) (by show 2 * 0 + _ ≤ _; rw [hW]; omega) hlo
  obtain ⟨c1, c2, c3, c4, c5, c6, c7, c8, c9, c10, c11⟩ := OIn.keep I Kp (fun x hx => by cases List.mem_singleton.mp hx; exact ha) (Fr.nil _)
  exact og stp (K T' h' ⟨hx, hby, hml, e', hlk, vm0, L, Y', c1, c2, c3, c4, c5, c6, c7, c8, c9, N', c11⟩ Kp B')
theorem own_nfz {s : State} {args : Array Value} {y y' z' : MethodName} {C : String} (w : (Cond.selects C y' z').before args s = true) (he : z'.cls = y.cls) : NotFace s y := fun r0 h0 => by
  obtain ⟨c2, r2, m2, q1, q2, q3, q4, kP, hkP, hkPi⟩ := Cond.selects_spec w
  have e1 := findClass_of_methodNamed h0
  have e2 := findClass_of_methodNamed q3
  rw [he] at e2
  have e3 : r0.cls = m2.cls := Option.some.inj (e1.symm.trans e2)
  exact ⟨kP, by rw [e3]; exact hkP, hkPi⟩
theorem own_selfsel {y : MethodName} {C : String} (w2 : (Cond.instanceMethod y).before a0 Z = true) (w3 : (Cond.selects C y y).before a0 Z = true) (w4 : (Cond.privateMethod y).before a0 Z = true) (hy : y.cls ≠ "java/lang/invoke/MethodHandle" ∧ y.cls ≠ "java/lang/invoke/VarHandle") : (Cond.selects y.cls y y).before a0 Z = true := by
  obtain ⟨c, r, m, h1, h2, h3, h4, mk, h5, h6⟩ := Cond.selects_spec w3
  exact selects_self_of_private (findClass_of_methodNamed h3) h5 h6 (Cond.privateMethod_at w4) w2 hy
theorem own_samem {y y' z' : MethodName} {C : String} (w : (Cond.selects C y' z').before a0 Z = true) (he : z'.cls = y.cls) (wi : (Cond.instanceMethod y).before a0 Z = true) (hy : y.cls ≠ "java/lang/invoke/MethodHandle" ∧ y.cls ≠ "java/lang/invoke/VarHandle") : (Cond.sameMethod y.cls y.cls y.name y.desc).before a0 Z = true := by
  obtain ⟨mk, methM, hnamed, hmethM, -, -⟩ := Cond.instanceMethod_spec wi
  have hfound : Z.methodFound? y.cls y.name y.desc = some mk := State.methodFound?_of_named hnamed hy
  obtain ⟨kr, hk, hni⟩ := own_nfz w he mk hnamed
  have hc := findClass_of_methodNamed hnamed
  have e1 : mk.cls = mk.cls := rfl
  simp only [Cond.before, Cond.holds, Cond.value, hc, hfound, show (⟨y.cls, y.name, y.desc⟩ : MethodName) = y from rfl, hnamed]
  simp [hk, hni]
theorem own_super (X : OSt Z EL a0 n0 h0 ws own bytes mx p l e R s m args below meth c sv T h k n) (pc' : Nat) {y : MethodName} {K0 : String} {index maxL W : Nat} {ret : Option FieldType} {rm : Room} {as' : Array Value} {ws' : List Addr} {Q : Option Value → Heap → Prop} {bc : ByteArray} {a : Addr} {argsL rest : List Value} (hd : decode bytes pc = .ok (.invokespecial index, 3)) (hy1 : y.name ≠ "<init>") (F : Ins Z h a K0 true) (hM : OMet l Z EL n0 y [Jvm.Cond.code y bc maxL ret] rm as' h ws' Q) (w1 : (Cond.methodLink own index y).before a0 Z = true) (w5 : (Cond.sameMethod y.cls y.cls y.name y.desc).before a0 Z = true) (w2 : (Cond.instanceMethod y).before a0 Z = true) (w6 : (Cond.superclass own y.cls).before a0 Z = true) (wz : (Cond.initialized y.cls).before a0 Z = true) (wc : (Cond.code y bc maxL ret).before a0 Z = true) (hy : y.cls ≠ "java/lang/invoke/MethodHandle" ∧ y.cls ≠ "java/lang/invoke/VarHandle")
    (hlen : ∀ sig, parseMethodDescriptor y.desc = some sig → argsL.length = sig.parameters.length) (hst : st = argsL.reverse ++ .ref a :: rest) (has : (.ref a :: argsL).toArray = as') (hsz : Ls.size = mx) (hW : (rest.map fun v => v.category).sum = W) (hf : rm.frames + 1 ≤ R.frames) (hl : W + (maxL + 11) + rm.locals ≤ R.locals) (hc : k + rm.cells ≤ R.cells) (hs : n + rm.slots ≤ R.slots) (hsv : ∀ x ∈ ws', x ∈ sv) (hq : pc' = pc + 3)
    (K : ∀ (T' : State) (h' : Heap) (v : Option Value), OSt Z EL a0 n0 h0 ws own bytes mx p l e R s m args below meth c sv T' h' (k + rm.cells) (n + rm.slots) → Keep h h' ws' → Q v h' → OGo p.tables e below P T' (mkF m pc' Ls (v.toList ++ rest))) : OGo p.tables e below P T (mkF m pc Ls st) := by
  subst hq
  obtain ⟨hx, hby, hml, eT, hlk, vm0, locs, Y, I⟩ := X
  have I0 := I
  obtain ⟨b1, b2, b3, b4, b5, b6, b7, b8, b9, b10, b11⟩ := I0
  have hS : ∀ x ∈ ws', x < h.size ∧ Safe Z EL vm0 h x := fun x hx => ⟨(b11 x (hsv x hx)).2.1, (b11 x (hsv x hx)).2.2.2⟩
  have hZ : Z.Warmed39 (s.setVm vm0).vm := b5
  have hW' : 2 * (mkF m pc Ls st).monitorRoom + (rest.map fun v => v.category).sum ≤ W := by show 2 * 0 + _ ≤ _; rw [hW]; omega
  by_cases hnil : EL = []
  · obtain ⟨v, vm₁, ⟨U, L', k', n'⟩, -, Y', ⟨L, ⟨q1, q2, q3⟩, l1, l2, l3⟩, stp⟩ := superBack Y hx hZ (y := y) (show (s.setVm vm0).vm.findClass own = _ from b6) w1 w5 w2 w6 hy1 (own_payN hnil hM b5 wc wz hf hl b7 b8.1 hS) eT F (g := mkF m pc Ls st) rfl (by rw [hml]; exact hsz) wc (argsL := argsL) (rest := rest) hlen hst hW' (hb hby hd) (fun _ _ => ⟨has, eT, hc, hs⟩)
    dsimp only [Pt.U, Pt.locs, Pt.cells, Pt.slots] at Y' l1 l2 l3 q1 q2 q3 stp
    subst l1 l2 l3
    exact og (fun _ q => stp.trans q) (K U U.heap v ⟨hx, hby, hml, rfl, hlk, vm0, _, Y', I.keep q2 hsv q1⟩ q2 q3)
  · obtain ⟨v, vm₁, ⟨U, L', k', n'⟩, -, Y', S', g', ⟨L, ⟨q1, q2, q3⟩, l1, l2, l3, C⟩, stp⟩ := superBackS Y hx hZ (y := y) (show (s.setVm vm0).vm.findClass own = _ from b6) w1 w5 w2 w6 hy1 (own_payW hM b5 wc wz hf hl b7 b8.1 hS) eT F (g := mkF m pc Ls st) rfl (by rw [hml]; exact hsz) wc (argsL := argsL) (rest := rest) hlen hst hW' (hb hby hd) (fun _ _ => ⟨has, eT, hc, hs⟩)
    dsimp only [Pt.U, Pt.locs, Pt.cells, Pt.slots] at Y' l1 l2 l3 q1 q2 q3 stp S' g' C
    subst l1 l2 l3
    exact og (fun _ q => stp.trans q) (K U U.heap v ⟨hx, hby, hml, rfl, hlk, U.vm, _, Y', I.call q2 hsv q1 C S' (fun q => absurd q hnil)⟩ q2 q3)
end OwnKit
theorem ow {Z : State} {a0 : Array Value} (hw : ∀ d ∈ tables_1, d.before a0 Z = true) (i : Nat) {d : Jvm.Cond} (h : tables_1[i]? = some d) : d.before a0 Z = true := hw d (List.mem_of_getElem? h)
theorem om {α : Type} {L : List α} {a : α} (i : Nat) (h : L[i]? = some a) : a ∈ L := List.mem_of_getElem? h
def own_EL : List (String × Nat) := consts_1
def OWorld (Z : State) (a0 : Array Value) : Prop := EW Z a0 own_EL ∧ (Sta Z Z.heap "java/lang/String" "COMPACT_STRINGS" "Z" (.int (own_sti Z "java/lang/String" "COMPACT_STRINGS" "Z")) ∧ ¬ (own_sti Z "java/lang/String" "COMPACT_STRINGS" "Z") = 0)
theorem ef_rm12 (a : Addr) (y : Value) (z : Int32) (w : Int32) (m : MethodId) : entryFrame m #[(.ref a), (.int 16)] 2 = mkF m 0 #[.val (.ref a), .val (.int 16)] [] := by first | (simp [entryFrame, mkF, argsToLocals, Value.category, maxLocals]; done) | rfl
theorem pn_java_lang_AbstractStringBuilder__init___I_V : plainFor (⟨"java/lang/AbstractStringBuilder", "<init>", "(I)V"⟩ : MethodName) = true := by first | exact plainFor_of_name (by first | (simp [plainName, overriddenIn]; done) | decide +kernel) | decide +kernel
theorem d12_0 : decode jdk_68_method_2_code 0 = .ok (.aload_n 0, 1) := by decide +kernel
theorem d12_1 : decode jdk_68_method_2_code 1 = .ok (.invokespecial 3, 3) := by decide +kernel
theorem d12_4 : decode jdk_68_method_2_code 4 = .ok (.getstatic 18, 3) := by decide +kernel
theorem d12_7 : decode jdk_68_method_2_code 7 = .ok (.ifCond .eq 18, 3) := by decide +kernel
theorem d12_10 : decode jdk_68_method_2_code 10 = .ok (.aload_n 0, 1) := by decide +kernel
theorem d12_11 : decode jdk_68_method_2_code 11 = .ok (.iload_n 1, 1) := by decide +kernel
theorem d12_12 : decode jdk_68_method_2_code 12 = .ok (.newarray .byte, 2) := by decide +kernel
theorem d12_14 : decode jdk_68_method_2_code 14 = .ok (.putfield 15, 3) := by decide +kernel
theorem d12_17 : decode jdk_68_method_2_code 17 = .ok (.aload_n 0, 1) := by decide +kernel
theorem d12_18 : decode jdk_68_method_2_code 18 = .ok (.iconst 0, 1) := by decide +kernel
theorem d12_19 : decode jdk_68_method_2_code 19 = .ok (.putfield 22, 3) := by decide +kernel
theorem d12_22 : decode jdk_68_method_2_code 22 = .ok (.goto 16, 3) := by decide +kernel
theorem d12_38 : decode jdk_68_method_2_code 38 = .ok (.return_, 1) := by decide +kernel
theorem ef_rm11 (a : Addr) (y : Value) (z : Int32) (w : Int32) (m : MethodId) : entryFrame m #[(.ref a)] 1 = mkF m 0 #[.val (.ref a)] [] := by first | (simp [entryFrame, mkF, argsToLocals, Value.category, maxLocals]; done) | rfl
theorem pn_java_lang_StringBuilder__init____V : plainFor (⟨"java/lang/StringBuilder", "<init>", "()V"⟩ : MethodName) = true := by first | exact plainFor_of_name (by first | (simp [plainName, overriddenIn]; done) | decide +kernel) | decide +kernel
theorem d11_0 : decode jdk_67_method_1_code 0 = .ok (.aload_n 0, 1) := by decide +kernel
theorem d11_1 : decode jdk_67_method_1_code 1 = .ok (.bipush 16, 2) := by decide +kernel
theorem d11_3 : decode jdk_67_method_1_code 3 = .ok (.invokespecial 1, 3) := by decide +kernel
theorem pd__28I_29V : parseMethodDescriptor "(I)V" = some ⟨[.int], none⟩ := by decide +kernel
theorem d11_6 : decode jdk_67_method_1_code 6 = .ok (.return_, 1) := by decide +kernel
theorem ef_rs_cod (a : Addr) (cs : List Int32) (m : MethodId) : entryFrame m #[(.ref a)] 1 = mkF m 0 #[.val (.ref a)] [] := by first | (simp [entryFrame, mkF, argsToLocals, Value.category, maxLocals]; done) | rfl
theorem pn_java_lang_String_coder___B : plainFor (⟨"java/lang/String", "coder", "()B"⟩ : MethodName) = true := by first | exact plainFor_of_name (by first | (simp [plainName, overriddenIn]; done) | decide +kernel) | decide +kernel
theorem d16_0 : decode jdk_42_method_152_code 0 = .ok (.getstatic 38, 3) := by decide +kernel
theorem d16_3 : decode jdk_42_method_152_code 3 = .ok (.ifCond .eq 10, 3) := by decide +kernel
theorem d16_6 : decode jdk_42_method_152_code 6 = .ok (.aload_n 0, 1) := by decide +kernel
theorem d16_7 : decode jdk_42_method_152_code 7 = .ok (.getfield 15, 3) := by decide +kernel
theorem d16_10 : decode jdk_42_method_152_code 10 = .ok (.goto 4, 3) := by decide +kernel
theorem d16_14 : decode jdk_42_method_152_code 14 = .ok (.ireturn, 1) := by decide +kernel
theorem ef_rs_inf (a : Addr) (u : Addr) (cs : List Int32) (m : MethodId) : entryFrame m #[(.ref a), (.ref u)] 2 = mkF m 0 #[.val (.ref a), .val (.ref u)] [] := by first | (simp [entryFrame, mkF, argsToLocals, Value.category, maxLocals]; done) | rfl
theorem pn_java_lang_AbstractStringBuilder_inflateIfNeededFor__Ljava_lang_String__V : plainFor (⟨"java/lang/AbstractStringBuilder", "inflateIfNeededFor", "(Ljava/lang/String;)V"⟩ : MethodName) = true := by first | exact plainFor_of_name (by first | (simp [plainName, overriddenIn]; done) | decide +kernel) | decide +kernel
theorem d19_0 : decode jdk_68_method_71_code 0 = .ok (.getstatic 18, 3) := by decide +kernel
theorem d19_3 : decode jdk_68_method_71_code 3 = .ok (.ifCond .eq 18, 3) := by decide +kernel
theorem d19_6 : decode jdk_68_method_71_code 6 = .ok (.aload_n 0, 1) := by decide +kernel
theorem d19_7 : decode jdk_68_method_71_code 7 = .ok (.getfield 22, 3) := by decide +kernel
theorem d19_10 : decode jdk_68_method_71_code 10 = .ok (.aload_n 1, 1) := by decide +kernel
theorem d19_11 : decode jdk_68_method_71_code 11 = .ok (.invokevirtual 40, 3) := by decide +kernel
theorem pd__28_29B : parseMethodDescriptor "()B" = some ⟨[], some .byte⟩ := by decide +kernel
theorem d19_14 : decode jdk_68_method_71_code 14 = .ok (.if_icmp .eq 7, 3) := by decide +kernel
theorem d19_21 : decode jdk_68_method_71_code 21 = .ok (.return_, 1) := by decide +kernel
theorem ef_rs_ens (a : Addr) (d : Addr) (kd : ClassId) (vs : List Value) (x : Int32) (m : MethodId) : entryFrame m #[(.ref a), (.int x)] 3 = mkF m 0 #[.val (.ref a), .val (.int x), .unset] [] := by first | (simp [entryFrame, mkF, argsToLocals, Value.category, maxLocals]; done) | rfl
theorem pn_java_lang_AbstractStringBuilder_ensureCapacityInternal__I_V : plainFor (⟨"java/lang/AbstractStringBuilder", "ensureCapacityInternal", "(I)V"⟩ : MethodName) = true := by first | exact plainFor_of_name (by first | (simp [plainName, overriddenIn]; done) | decide +kernel) | decide +kernel
theorem d17_0 : decode jdk_68_method_9_code 0 = .ok (.aload_n 0, 1) := by decide +kernel
theorem d17_1 : decode jdk_68_method_9_code 1 = .ok (.getfield 15, 3) := by decide +kernel
theorem d17_4 : decode jdk_68_method_9_code 4 = .ok (.arraylength, 1) := by decide +kernel
theorem d17_5 : decode jdk_68_method_9_code 5 = .ok (.aload_n 0, 1) := by decide +kernel
theorem d17_6 : decode jdk_68_method_9_code 6 = .ok (.getfield 22, 3) := by decide +kernel
theorem d17_9 : decode jdk_68_method_9_code 9 = .ok (.ishr, 1) := by decide +kernel
theorem d17_10 : decode jdk_68_method_9_code 10 = .ok (.istore_n 2, 1) := by decide +kernel
theorem d17_11 : decode jdk_68_method_9_code 11 = .ok (.iload_n 1, 1) := by decide +kernel
theorem d17_12 : decode jdk_68_method_9_code 12 = .ok (.iload_n 2, 1) := by decide +kernel
theorem d17_13 : decode jdk_68_method_9_code 13 = .ok (.isub, 1) := by decide +kernel
theorem d17_14 : decode jdk_68_method_9_code 14 = .ok (.ifCond .le 24, 3) := by decide +kernel
theorem d17_38 : decode jdk_68_method_9_code 38 = .ok (.return_, 1) := by decide +kernel
theorem ef_rs_gb1_9 (a : Addr) (d : Addr) (kd : ClassId) (x0 : Int32) (e0 : Value) (e1 : Value) (e2 : Value) (e3 : Value) (e4 : Value) (e5 : Value) (e6 : Value) (e7 : Value) (e8 : Value) (e9 : Value) (e10 : Value) (e11 : Value) (e12 : Value) (e13 : Value) (e14 : Value) (e15 : Value) (m : MethodId) : entryFrame m #[(.ref a), (.ref d), (.int 9), (.int 0)] 4 = mkF m 0 #[.val (.ref a), .val (.ref d), .val (.int 9), .val (.int 0)] [] := by first | (simp [entryFrame, mkF, argsToLocals, Value.category, maxLocals]; done) | rfl
theorem pn_java_lang_String_getBytes___BIB_V : plainFor (⟨"java/lang/String", "getBytes", "([BIB)V"⟩ : MethodName) = true := by first | exact plainFor_of_name (by first | (simp [plainName, overriddenIn]; done) | decide +kernel) | decide +kernel
theorem d20_0 : decode jdk_42_method_147_code 0 = .ok (.aload_n 0, 1) := by decide +kernel
theorem d20_1 : decode jdk_42_method_147_code 1 = .ok (.invokevirtual 335, 3) := by decide +kernel
theorem d20_4 : decode jdk_42_method_147_code 4 = .ok (.iload_n 3, 1) := by decide +kernel
theorem d20_5 : decode jdk_42_method_147_code 5 = .ok (.if_icmp .ne 23, 3) := by decide +kernel
theorem d20_8 : decode jdk_42_method_147_code 8 = .ok (.aload_n 0, 1) := by decide +kernel
theorem d20_9 : decode jdk_42_method_147_code 9 = .ok (.getfield 9, 3) := by decide +kernel
theorem d20_12 : decode jdk_42_method_147_code 12 = .ok (.iconst 0, 1) := by decide +kernel
theorem d20_13 : decode jdk_42_method_147_code 13 = .ok (.aload_n 1, 1) := by decide +kernel
theorem d20_14 : decode jdk_42_method_147_code 14 = .ok (.iload_n 2, 1) := by decide +kernel
theorem d20_15 : decode jdk_42_method_147_code 15 = .ok (.iload_n 3, 1) := by decide +kernel
theorem d20_16 : decode jdk_42_method_147_code 16 = .ok (.ishl, 1) := by decide +kernel
theorem d20_17 : decode jdk_42_method_147_code 17 = .ok (.aload_n 0, 1) := by decide +kernel
theorem d20_18 : decode jdk_42_method_147_code 18 = .ok (.getfield 9, 3) := by decide +kernel
theorem d20_21 : decode jdk_42_method_147_code 21 = .ok (.arraylength, 1) := by decide +kernel
theorem d20_22 : decode jdk_42_method_147_code 22 = .ok (.invokestatic 212, 3) := by decide +kernel
theorem d20_25 : decode jdk_42_method_147_code 25 = .ok (.goto 18, 3) := by decide +kernel
theorem d20_43 : decode jdk_42_method_147_code 43 = .ok (.return_, 1) := by decide +kernel
theorem ef_rs_ps1_9 (a : Addr) (u : Addr) (d : Addr) (kd : ClassId) (x0 : Int32) (e0 : Value) (e1 : Value) (e2 : Value) (e3 : Value) (e4 : Value) (e5 : Value) (e6 : Value) (e7 : Value) (e8 : Value) (e9 : Value) (e10 : Value) (e11 : Value) (e12 : Value) (e13 : Value) (e14 : Value) (e15 : Value) (m : MethodId) : entryFrame m #[(.ref a), (.int 9), (.ref u)] 3 = mkF m 0 #[.val (.ref a), .val (.int 9), .val (.ref u)] [] := by first | (simp [entryFrame, mkF, argsToLocals, Value.category, maxLocals]; done) | rfl
theorem pn_java_lang_AbstractStringBuilder_putStringAt__ILjava_lang_String__V : plainFor (⟨"java/lang/AbstractStringBuilder", "putStringAt", "(ILjava/lang/String;)V"⟩ : MethodName) = true := by first | exact plainFor_of_name (by first | (simp [plainName, overriddenIn]; done) | decide +kernel) | decide +kernel
theorem d18_0 : decode jdk_68_method_73_code 0 = .ok (.aload_n 0, 1) := by decide +kernel
theorem d18_1 : decode jdk_68_method_73_code 1 = .ok (.aload_n 2, 1) := by decide +kernel
theorem d18_2 : decode jdk_68_method_73_code 2 = .ok (.invokevirtual 397, 3) := by decide +kernel
theorem pd__28Ljava_2flang_2fString_3b_29V : parseMethodDescriptor "(Ljava/lang/String;)V" = some ⟨[(.object "java/lang/String")], none⟩ := by decide +kernel
theorem d18_5 : decode jdk_68_method_73_code 5 = .ok (.aload_n 2, 1) := by decide +kernel
theorem d18_6 : decode jdk_68_method_73_code 6 = .ok (.aload_n 0, 1) := by decide +kernel
theorem d18_7 : decode jdk_68_method_73_code 7 = .ok (.getfield 15, 3) := by decide +kernel
theorem d18_10 : decode jdk_68_method_73_code 10 = .ok (.iload_n 1, 1) := by decide +kernel
theorem d18_11 : decode jdk_68_method_73_code 11 = .ok (.aload_n 0, 1) := by decide +kernel
theorem d18_12 : decode jdk_68_method_73_code 12 = .ok (.getfield 22, 3) := by decide +kernel
theorem d18_15 : decode jdk_68_method_73_code 15 = .ok (.invokevirtual 399, 3) := by decide +kernel
theorem pd__28_5bBIB_29V : parseMethodDescriptor "([BIB)V" = some ⟨[(.array .byte), .int, .byte], none⟩ := by decide +kernel
theorem d18_18 : decode jdk_68_method_73_code 18 = .ok (.return_, 1) := by decide +kernel
theorem ef_rs_aa1_9 (a : Addr) (u : Addr) (d : Addr) (kd : ClassId) (x0 : Int32) (e0 : Value) (e1 : Value) (e2 : Value) (e3 : Value) (e4 : Value) (e5 : Value) (e6 : Value) (e7 : Value) (e8 : Value) (e9 : Value) (e10 : Value) (e11 : Value) (e12 : Value) (e13 : Value) (e14 : Value) (e15 : Value) (m : MethodId) : entryFrame m #[(.ref a), (.ref u)] 3 = mkF m 0 #[.val (.ref a), .val (.ref u), .unset] [] := by first | (simp [entryFrame, mkF, argsToLocals, Value.category, maxLocals]; done) | rfl
theorem pn_java_lang_AbstractStringBuilder_append__Ljava_lang_String__Ljava_lang_AbstractStringBuilder_ : plainFor (⟨"java/lang/AbstractStringBuilder", "append", "(Ljava/lang/String;)Ljava/lang/AbstractStringBuilder;"⟩ : MethodName) = true := by first | exact plainFor_of_name (by first | (simp [plainName, overriddenIn]; done) | decide +kernel) | decide +kernel
theorem d14_0 : decode jdk_68_method_22_code 0 = .ok (.aload_n 1, 1) := by decide +kernel
theorem d14_1 : decode jdk_68_method_22_code 1 = .ok (.ifnonnull 8, 3) := by decide +kernel
theorem d14_9 : decode jdk_68_method_22_code 9 = .ok (.aload_n 1, 1) := by decide +kernel
theorem d14_10 : decode jdk_68_method_22_code 10 = .ok (.invokevirtual 32, 3) := by decide +kernel
theorem own_wL {Z : State} {a0 : Array Value} (hw : ∀ d ∈ tables_1, d.before a0 Z = true) : ∀ d ∈ StrChars.Road.wordsLen, d.before a0 Z = true := fun d hd => hw d ((by decide +kernel : ∀ d ∈ StrChars.Road.wordsLen, d ∈ tables_1) d hd)
theorem d14_13 : decode jdk_68_method_22_code 13 = .ok (.istore_n 2, 1) := by decide +kernel
theorem d14_14 : decode jdk_68_method_22_code 14 = .ok (.aload_n 0, 1) := by decide +kernel
theorem d14_15 : decode jdk_68_method_22_code 15 = .ok (.aload_n 0, 1) := by decide +kernel
theorem d14_16 : decode jdk_68_method_22_code 16 = .ok (.getfield 79, 3) := by decide +kernel
theorem d14_19 : decode jdk_68_method_22_code 19 = .ok (.iload_n 2, 1) := by decide +kernel
theorem d14_20 : decode jdk_68_method_22_code 20 = .ok (.iadd, 1) := by decide +kernel
theorem d14_21 : decode jdk_68_method_22_code 21 = .ok (.invokevirtual 100, 3) := by decide +kernel
theorem d14_24 : decode jdk_68_method_22_code 24 = .ok (.aload_n 0, 1) := by decide +kernel
theorem d14_25 : decode jdk_68_method_22_code 25 = .ok (.aload_n 0, 1) := by decide +kernel
theorem d14_26 : decode jdk_68_method_22_code 26 = .ok (.getfield 79, 3) := by decide +kernel
theorem d14_29 : decode jdk_68_method_22_code 29 = .ok (.aload_n 1, 1) := by decide +kernel
theorem d14_30 : decode jdk_68_method_22_code 30 = .ok (.invokevirtual 208, 3) := by decide +kernel
theorem pd__28ILjava_2flang_2fString_3b_29V : parseMethodDescriptor "(ILjava/lang/String;)V" = some ⟨[.int, (.object "java/lang/String")], none⟩ := by decide +kernel
theorem d14_33 : decode jdk_68_method_22_code 33 = .ok (.aload_n 0, 1) := by decide +kernel
theorem d14_34 : decode jdk_68_method_22_code 34 = .ok (.dup, 1) := by decide +kernel
theorem d14_35 : decode jdk_68_method_22_code 35 = .ok (.getfield 79, 3) := by decide +kernel
theorem d14_38 : decode jdk_68_method_22_code 38 = .ok (.iload_n 2, 1) := by decide +kernel
theorem d14_39 : decode jdk_68_method_22_code 39 = .ok (.iadd, 1) := by decide +kernel
theorem d14_40 : decode jdk_68_method_22_code 40 = .ok (.putfield 79, 3) := by decide +kernel
theorem d14_43 : decode jdk_68_method_22_code 43 = .ok (.aload_n 0, 1) := by decide +kernel
theorem d14_44 : decode jdk_68_method_22_code 44 = .ok (.areturn, 1) := by decide +kernel
theorem ef_rs_sa1_9 (a : Addr) (u : Addr) (d : Addr) (kd : ClassId) (x0 : Int32) (e0 : Value) (e1 : Value) (e2 : Value) (e3 : Value) (e4 : Value) (e5 : Value) (e6 : Value) (e7 : Value) (e8 : Value) (e9 : Value) (e10 : Value) (e11 : Value) (e12 : Value) (e13 : Value) (e14 : Value) (e15 : Value) (m : MethodId) : entryFrame m #[(.ref a), (.ref u)] 2 = mkF m 0 #[.val (.ref a), .val (.ref u)] [] := by first | (simp [entryFrame, mkF, argsToLocals, Value.category, maxLocals]; done) | rfl
theorem pn_java_lang_StringBuilder_append__Ljava_lang_String__Ljava_lang_StringBuilder_ : plainFor (⟨"java/lang/StringBuilder", "append", "(Ljava/lang/String;)Ljava/lang/StringBuilder;"⟩ : MethodName) = true := by first | exact plainFor_of_name (by first | (simp [plainName, overriddenIn]; done) | decide +kernel) | decide +kernel
theorem d13_0 : decode jdk_67_method_7_code 0 = .ok (.aload_n 0, 1) := by decide +kernel
theorem d13_1 : decode jdk_67_method_7_code 1 = .ok (.aload_n 1, 1) := by decide +kernel
theorem d13_2 : decode jdk_67_method_7_code 2 = .ok (.invokespecial 29, 3) := by decide +kernel
theorem pd__28Ljava_2flang_2fString_3b_29Ljava_2flang_2fAbstractStringBuilder_3b : parseMethodDescriptor "(Ljava/lang/String;)Ljava/lang/AbstractStringBuilder;" = some ⟨[(.object "java/lang/String")], some (.object "java/lang/AbstractStringBuilder")⟩ := by decide +kernel
theorem d13_5 : decode jdk_67_method_7_code 5 = .ok (.pop, 1) := by decide +kernel
theorem d13_6 : decode jdk_67_method_7_code 6 = .ok (.aload_n 0, 1) := by decide +kernel
theorem d13_7 : decode jdk_67_method_7_code 7 = .ok (.areturn, 1) := by decide +kernel
theorem ef_rs_gb1_10 (a : Addr) (d : Addr) (kd : ClassId) (x0 : Int32) (e0 : Value) (e1 : Value) (e2 : Value) (e3 : Value) (e4 : Value) (e5 : Value) (e6 : Value) (e7 : Value) (e8 : Value) (e9 : Value) (e10 : Value) (e11 : Value) (e12 : Value) (e13 : Value) (e14 : Value) (e15 : Value) (m : MethodId) : entryFrame m #[(.ref a), (.ref d), (.int 10), (.int 0)] 4 = mkF m 0 #[.val (.ref a), .val (.ref d), .val (.int 10), .val (.int 0)] [] := by first | (simp [entryFrame, mkF, argsToLocals, Value.category, maxLocals]; done) | rfl
theorem ef_rs_ps1_10 (a : Addr) (u : Addr) (d : Addr) (kd : ClassId) (x0 : Int32) (e0 : Value) (e1 : Value) (e2 : Value) (e3 : Value) (e4 : Value) (e5 : Value) (e6 : Value) (e7 : Value) (e8 : Value) (e9 : Value) (e10 : Value) (e11 : Value) (e12 : Value) (e13 : Value) (e14 : Value) (e15 : Value) (m : MethodId) : entryFrame m #[(.ref a), (.int 10), (.ref u)] 3 = mkF m 0 #[.val (.ref a), .val (.int 10), .val (.ref u)] [] := by first | (simp [entryFrame, mkF, argsToLocals, Value.category, maxLocals]; done) | rfl
theorem ef_rs_aa1_10 (a : Addr) (u : Addr) (d : Addr) (kd : ClassId) (x0 : Int32) (e0 : Value) (e1 : Value) (e2 : Value) (e3 : Value) (e4 : Value) (e5 : Value) (e6 : Value) (e7 : Value) (e8 : Value) (e9 : Value) (e10 : Value) (e11 : Value) (e12 : Value) (e13 : Value) (e14 : Value) (e15 : Value) (m : MethodId) : entryFrame m #[(.ref a), (.ref u)] 3 = mkF m 0 #[.val (.ref a), .val (.ref u), .unset] [] := by first | (simp [entryFrame, mkF, argsToLocals, Value.category, maxLocals]; done) | rfl
theorem ef_rs_sa1_10 (a : Addr) (u : Addr) (d : Addr) (kd : ClassId) (x0 : Int32) (e0 : Value) (e1 : Value) (e2 : Value) (e3 : Value) (e4 : Value) (e5 : Value) (e6 : Value) (e7 : Value) (e8 : Value) (e9 : Value) (e10 : Value) (e11 : Value) (e12 : Value) (e13 : Value) (e14 : Value) (e15 : Value) (m : MethodId) : entryFrame m #[(.ref a), (.ref u)] 2 = mkF m 0 #[.val (.ref a), .val (.ref u)] [] := by first | (simp [entryFrame, mkF, argsToLocals, Value.category, maxLocals]; done) | rfl
theorem ef_rs_gb1_11 (a : Addr) (d : Addr) (kd : ClassId) (x0 : Int32) (e0 : Value) (e1 : Value) (e2 : Value) (e3 : Value) (e4 : Value) (e5 : Value) (e6 : Value) (e7 : Value) (e8 : Value) (e9 : Value) (e10 : Value) (e11 : Value) (e12 : Value) (e13 : Value) (e14 : Value) (e15 : Value) (m : MethodId) : entryFrame m #[(.ref a), (.ref d), (.int 11), (.int 0)] 4 = mkF m 0 #[.val (.ref a), .val (.ref d), .val (.int 11), .val (.int 0)] [] := by first | (simp [entryFrame, mkF, argsToLocals, Value.category, maxLocals]; done) | rfl
theorem ef_rs_ps1_11 (a : Addr) (u : Addr) (d : Addr) (kd : ClassId) (x0 : Int32) (e0 : Value) (e1 : Value) (e2 : Value) (e3 : Value) (e4 : Value) (e5 : Value) (e6 : Value) (e7 : Value) (e8 : Value) (e9 : Value) (e10 : Value) (e11 : Value) (e12 : Value) (e13 : Value) (e14 : Value) (e15 : Value) (m : MethodId) : entryFrame m #[(.ref a), (.int 11), (.ref u)] 3 = mkF m 0 #[.val (.ref a), .val (.int 11), .val (.ref u)] [] := by first | (simp [entryFrame, mkF, argsToLocals, Value.category, maxLocals]; done) | rfl
theorem ef_rs_aa1_11 (a : Addr) (u : Addr) (d : Addr) (kd : ClassId) (x0 : Int32) (e0 : Value) (e1 : Value) (e2 : Value) (e3 : Value) (e4 : Value) (e5 : Value) (e6 : Value) (e7 : Value) (e8 : Value) (e9 : Value) (e10 : Value) (e11 : Value) (e12 : Value) (e13 : Value) (e14 : Value) (e15 : Value) (m : MethodId) : entryFrame m #[(.ref a), (.ref u)] 3 = mkF m 0 #[.val (.ref a), .val (.ref u), .unset] [] := by first | (simp [entryFrame, mkF, argsToLocals, Value.category, maxLocals]; done) | rfl
theorem ef_rs_sa1_11 (a : Addr) (u : Addr) (d : Addr) (kd : ClassId) (x0 : Int32) (e0 : Value) (e1 : Value) (e2 : Value) (e3 : Value) (e4 : Value) (e5 : Value) (e6 : Value) (e7 : Value) (e8 : Value) (e9 : Value) (e10 : Value) (e11 : Value) (e12 : Value) (e13 : Value) (e14 : Value) (e15 : Value) (m : MethodId) : entryFrame m #[(.ref a), (.ref u)] 2 = mkF m 0 #[.val (.ref a), .val (.ref u)] [] := by first | (simp [entryFrame, mkF, argsToLocals, Value.category, maxLocals]; done) | rfl
theorem ef_rs_gb1_12 (a : Addr) (d : Addr) (kd : ClassId) (x0 : Int32) (e0 : Value) (e1 : Value) (e2 : Value) (e3 : Value) (e4 : Value) (e5 : Value) (e6 : Value) (e7 : Value) (e8 : Value) (e9 : Value) (e10 : Value) (e11 : Value) (e12 : Value) (e13 : Value) (e14 : Value) (e15 : Value) (m : MethodId) : entryFrame m #[(.ref a), (.ref d), (.int 12), (.int 0)] 4 = mkF m 0 #[.val (.ref a), .val (.ref d), .val (.int 12), .val (.int 0)] [] := by first | (simp [entryFrame, mkF, argsToLocals, Value.category, maxLocals]; done) | rfl
theorem ef_rs_ps1_12 (a : Addr) (u : Addr) (d : Addr) (kd : ClassId) (x0 : Int32) (e0 : Value) (e1 : Value) (e2 : Value) (e3 : Value) (e4 : Value) (e5 : Value) (e6 : Value) (e7 : Value) (e8 : Value) (e9 : Value) (e10 : Value) (e11 : Value) (e12 : Value) (e13 : Value) (e14 : Value) (e15 : Value) (m : MethodId) : entryFrame m #[(.ref a), (.int 12), (.ref u)] 3 = mkF m 0 #[.val (.ref a), .val (.int 12), .val (.ref u)] [] := by first | (simp [entryFrame, mkF, argsToLocals, Value.category, maxLocals]; done) | rfl
theorem ef_rs_aa1_12 (a : Addr) (u : Addr) (d : Addr) (kd : ClassId) (x0 : Int32) (e0 : Value) (e1 : Value) (e2 : Value) (e3 : Value) (e4 : Value) (e5 : Value) (e6 : Value) (e7 : Value) (e8 : Value) (e9 : Value) (e10 : Value) (e11 : Value) (e12 : Value) (e13 : Value) (e14 : Value) (e15 : Value) (m : MethodId) : entryFrame m #[(.ref a), (.ref u)] 3 = mkF m 0 #[.val (.ref a), .val (.ref u), .unset] [] := by first | (simp [entryFrame, mkF, argsToLocals, Value.category, maxLocals]; done) | rfl
theorem ef_rs_sa1_12 (a : Addr) (u : Addr) (d : Addr) (kd : ClassId) (x0 : Int32) (e0 : Value) (e1 : Value) (e2 : Value) (e3 : Value) (e4 : Value) (e5 : Value) (e6 : Value) (e7 : Value) (e8 : Value) (e9 : Value) (e10 : Value) (e11 : Value) (e12 : Value) (e13 : Value) (e14 : Value) (e15 : Value) (m : MethodId) : entryFrame m #[(.ref a), (.ref u)] 2 = mkF m 0 #[.val (.ref a), .val (.ref u)] [] := by first | (simp [entryFrame, mkF, argsToLocals, Value.category, maxLocals]; done) | rfl
theorem ef_rs_gb2_9 (a : Addr) (d : Addr) (kd : ClassId) (x0 : Int32) (x1 : Int32) (e0 : Value) (e1 : Value) (e2 : Value) (e3 : Value) (e4 : Value) (e5 : Value) (e6 : Value) (e7 : Value) (e8 : Value) (e9 : Value) (e10 : Value) (e11 : Value) (e12 : Value) (e13 : Value) (e14 : Value) (e15 : Value) (m : MethodId) : entryFrame m #[(.ref a), (.ref d), (.int 9), (.int 0)] 4 = mkF m 0 #[.val (.ref a), .val (.ref d), .val (.int 9), .val (.int 0)] [] := by first | (simp [entryFrame, mkF, argsToLocals, Value.category, maxLocals]; done) | rfl
theorem ef_rs_ps2_9 (a : Addr) (u : Addr) (d : Addr) (kd : ClassId) (x0 : Int32) (x1 : Int32) (e0 : Value) (e1 : Value) (e2 : Value) (e3 : Value) (e4 : Value) (e5 : Value) (e6 : Value) (e7 : Value) (e8 : Value) (e9 : Value) (e10 : Value) (e11 : Value) (e12 : Value) (e13 : Value) (e14 : Value) (e15 : Value) (m : MethodId) : entryFrame m #[(.ref a), (.int 9), (.ref u)] 3 = mkF m 0 #[.val (.ref a), .val (.int 9), .val (.ref u)] [] := by first | (simp [entryFrame, mkF, argsToLocals, Value.category, maxLocals]; done) | rfl
theorem ef_rs_aa2_9 (a : Addr) (u : Addr) (d : Addr) (kd : ClassId) (x0 : Int32) (x1 : Int32) (e0 : Value) (e1 : Value) (e2 : Value) (e3 : Value) (e4 : Value) (e5 : Value) (e6 : Value) (e7 : Value) (e8 : Value) (e9 : Value) (e10 : Value) (e11 : Value) (e12 : Value) (e13 : Value) (e14 : Value) (e15 : Value) (m : MethodId) : entryFrame m #[(.ref a), (.ref u)] 3 = mkF m 0 #[.val (.ref a), .val (.ref u), .unset] [] := by first | (simp [entryFrame, mkF, argsToLocals, Value.category, maxLocals]; done) | rfl
theorem ef_rs_sa2_9 (a : Addr) (u : Addr) (d : Addr) (kd : ClassId) (x0 : Int32) (x1 : Int32) (e0 : Value) (e1 : Value) (e2 : Value) (e3 : Value) (e4 : Value) (e5 : Value) (e6 : Value) (e7 : Value) (e8 : Value) (e9 : Value) (e10 : Value) (e11 : Value) (e12 : Value) (e13 : Value) (e14 : Value) (e15 : Value) (m : MethodId) : entryFrame m #[(.ref a), (.ref u)] 2 = mkF m 0 #[.val (.ref a), .val (.ref u)] [] := by first | (simp [entryFrame, mkF, argsToLocals, Value.category, maxLocals]; done) | rfl
theorem ef_rs_gb3_9 (a : Addr) (d : Addr) (kd : ClassId) (x0 : Int32) (x1 : Int32) (x2 : Int32) (e0 : Value) (e1 : Value) (e2 : Value) (e3 : Value) (e4 : Value) (e5 : Value) (e6 : Value) (e7 : Value) (e8 : Value) (e9 : Value) (e10 : Value) (e11 : Value) (e12 : Value) (e13 : Value) (e14 : Value) (e15 : Value) (m : MethodId) : entryFrame m #[(.ref a), (.ref d), (.int 9), (.int 0)] 4 = mkF m 0 #[.val (.ref a), .val (.ref d), .val (.int 9), .val (.int 0)] [] := by first | (simp [entryFrame, mkF, argsToLocals, Value.category, maxLocals]; done) | rfl
theorem ef_rs_ps3_9 (a : Addr) (u : Addr) (d : Addr) (kd : ClassId) (x0 : Int32) (x1 : Int32) (x2 : Int32) (e0 : Value) (e1 : Value) (e2 : Value) (e3 : Value) (e4 : Value) (e5 : Value) (e6 : Value) (e7 : Value) (e8 : Value) (e9 : Value) (e10 : Value) (e11 : Value) (e12 : Value) (e13 : Value) (e14 : Value) (e15 : Value) (m : MethodId) : entryFrame m #[(.ref a), (.int 9), (.ref u)] 3 = mkF m 0 #[.val (.ref a), .val (.int 9), .val (.ref u)] [] := by first | (simp [entryFrame, mkF, argsToLocals, Value.category, maxLocals]; done) | rfl
theorem ef_rs_aa3_9 (a : Addr) (u : Addr) (d : Addr) (kd : ClassId) (x0 : Int32) (x1 : Int32) (x2 : Int32) (e0 : Value) (e1 : Value) (e2 : Value) (e3 : Value) (e4 : Value) (e5 : Value) (e6 : Value) (e7 : Value) (e8 : Value) (e9 : Value) (e10 : Value) (e11 : Value) (e12 : Value) (e13 : Value) (e14 : Value) (e15 : Value) (m : MethodId) : entryFrame m #[(.ref a), (.ref u)] 3 = mkF m 0 #[.val (.ref a), .val (.ref u), .unset] [] := by first | (simp [entryFrame, mkF, argsToLocals, Value.category, maxLocals]; done) | rfl
theorem ef_rs_sa3_9 (a : Addr) (u : Addr) (d : Addr) (kd : ClassId) (x0 : Int32) (x1 : Int32) (x2 : Int32) (e0 : Value) (e1 : Value) (e2 : Value) (e3 : Value) (e4 : Value) (e5 : Value) (e6 : Value) (e7 : Value) (e8 : Value) (e9 : Value) (e10 : Value) (e11 : Value) (e12 : Value) (e13 : Value) (e14 : Value) (e15 : Value) (m : MethodId) : entryFrame m #[(.ref a), (.ref u)] 2 = mkF m 0 #[.val (.ref a), .val (.ref u)] [] := by first | (simp [entryFrame, mkF, argsToLocals, Value.category, maxLocals]; done) | rfl
theorem ef_rs_gb9_0 (a : Addr) (d : Addr) (kd : ClassId) (x0 : Int32) (x1 : Int32) (x2 : Int32) (x3 : Int32) (x4 : Int32) (x5 : Int32) (x6 : Int32) (x7 : Int32) (x8 : Int32) (e0 : Value) (e1 : Value) (e2 : Value) (e3 : Value) (e4 : Value) (e5 : Value) (e6 : Value) (e7 : Value) (e8 : Value) (e9 : Value) (e10 : Value) (e11 : Value) (e12 : Value) (e13 : Value) (e14 : Value) (e15 : Value) (m : MethodId) : entryFrame m #[(.ref a), (.ref d), (.int 0), (.int 0)] 4 = mkF m 0 #[.val (.ref a), .val (.ref d), .val (.int 0), .val (.int 0)] [] := by first | (simp [entryFrame, mkF, argsToLocals, Value.category, maxLocals]; done) | rfl
theorem ef_rs_ps9_0 (a : Addr) (u : Addr) (d : Addr) (kd : ClassId) (x0 : Int32) (x1 : Int32) (x2 : Int32) (x3 : Int32) (x4 : Int32) (x5 : Int32) (x6 : Int32) (x7 : Int32) (x8 : Int32) (e0 : Value) (e1 : Value) (e2 : Value) (e3 : Value) (e4 : Value) (e5 : Value) (e6 : Value) (e7 : Value) (e8 : Value) (e9 : Value) (e10 : Value) (e11 : Value) (e12 : Value) (e13 : Value) (e14 : Value) (e15 : Value) (m : MethodId) : entryFrame m #[(.ref a), (.int 0), (.ref u)] 3 = mkF m 0 #[.val (.ref a), .val (.int 0), .val (.ref u)] [] := by first | (simp [entryFrame, mkF, argsToLocals, Value.category, maxLocals]; done) | rfl
theorem ef_rs_aa9_0 (a : Addr) (u : Addr) (d : Addr) (kd : ClassId) (x0 : Int32) (x1 : Int32) (x2 : Int32) (x3 : Int32) (x4 : Int32) (x5 : Int32) (x6 : Int32) (x7 : Int32) (x8 : Int32) (e0 : Value) (e1 : Value) (e2 : Value) (e3 : Value) (e4 : Value) (e5 : Value) (e6 : Value) (e7 : Value) (e8 : Value) (e9 : Value) (e10 : Value) (e11 : Value) (e12 : Value) (e13 : Value) (e14 : Value) (e15 : Value) (m : MethodId) : entryFrame m #[(.ref a), (.ref u)] 3 = mkF m 0 #[.val (.ref a), .val (.ref u), .unset] [] := by first | (simp [entryFrame, mkF, argsToLocals, Value.category, maxLocals]; done) | rfl
theorem ef_rs_sa9_0 (a : Addr) (u : Addr) (d : Addr) (kd : ClassId) (x0 : Int32) (x1 : Int32) (x2 : Int32) (x3 : Int32) (x4 : Int32) (x5 : Int32) (x6 : Int32) (x7 : Int32) (x8 : Int32) (e0 : Value) (e1 : Value) (e2 : Value) (e3 : Value) (e4 : Value) (e5 : Value) (e6 : Value) (e7 : Value) (e8 : Value) (e9 : Value) (e10 : Value) (e11 : Value) (e12 : Value) (e13 : Value) (e14 : Value) (e15 : Value) (m : MethodId) : entryFrame m #[(.ref a), (.ref u)] 2 = mkF m 0 #[.val (.ref a), .val (.ref u)] [] := by first | (simp [entryFrame, mkF, argsToLocals, Value.category, maxLocals]; done) | rfl
theorem ef_rm31 (x : Int32) (y : Int32) (m : MethodId) : entryFrame m #[(.int x), (.int y)] 2 = mkF m 0 #[.val (.int x), .val (.int y)] [] := by first | (simp [entryFrame, mkF, argsToLocals, Value.category, maxLocals]; done) | rfl
theorem pn_java_lang_Math_min__II_I : plainFor (⟨"java/lang/Math", "min", "(II)I"⟩ : MethodName) = true := by first | exact plainFor_of_name (by first | (simp [plainName, overriddenIn]; done) | decide +kernel) | decide +kernel
theorem d31_0 : decode jdk_29_method_69_code 0 = .ok (.iload_n 0, 1) := by decide +kernel
theorem d31_1 : decode jdk_29_method_69_code 1 = .ok (.iload_n 1, 1) := by decide +kernel
theorem d31_2 : decode jdk_29_method_69_code 2 = .ok (.if_icmp .gt 7, 3) := by decide +kernel
theorem d31_9 : decode jdk_29_method_69_code 9 = .ok (.iload_n 1, 1) := by decide +kernel
theorem d31_10 : decode jdk_29_method_69_code 10 = .ok (.ireturn, 1) := by decide +kernel
theorem ef_rm30 (x : Int32) (y : Int32) (m : MethodId) : entryFrame m #[(.int x), (.int y)] 2 = mkF m 0 #[.val (.int x), .val (.int y)] [] := by first | (simp [entryFrame, mkF, argsToLocals, Value.category, maxLocals]; done) | rfl
theorem pn_java_util_Arrays_checkLength__II_V : plainFor (⟨"java/util/Arrays", "checkLength", "(II)V"⟩ : MethodName) = true := by first | exact plainFor_of_name (by first | (simp [plainName, overriddenIn]; done) | decide +kernel) | decide +kernel
theorem d30_0 : decode jdk_65_method_131_code 0 = .ok (.iload_n 1, 1) := by decide +kernel
theorem d30_1 : decode jdk_65_method_131_code 1 = .ok (.iload_n 0, 1) := by decide +kernel
theorem d30_2 : decode jdk_65_method_131_code 2 = .ok (.if_icmp .ge 35, 3) := by decide +kernel
theorem d30_37 : decode jdk_65_method_131_code 37 = .ok (.return_, 1) := by decide +kernel
theorem ef_rm24 (a : Addr) (d : Addr) (m : MethodId) : entryFrame m #[(.ref a)] 1 = mkF m 0 #[.val (.ref a)] [] := by first | (simp [entryFrame, mkF, argsToLocals, Value.category, maxLocals]; done) | rfl
theorem pn_java_lang_AbstractStringBuilder_getValue____B : plainFor (⟨"java/lang/AbstractStringBuilder", "getValue", "()[B"⟩ : MethodName) = true := by first | exact plainFor_of_name (by first | (simp [plainName, overriddenIn]; done) | decide +kernel) | decide +kernel
theorem d24_0 : decode jdk_68_method_64_code 0 = .ok (.aload_n 0, 1) := by decide +kernel
theorem d24_1 : decode jdk_68_method_64_code 1 = .ok (.getfield 15, 3) := by decide +kernel
theorem d24_4 : decode jdk_68_method_64_code 4 = .ok (.areturn, 1) := by decide +kernel
theorem ef_rm26 (a : Addr) (x : Int32) (m : MethodId) : entryFrame m #[(.ref a)] 1 = mkF m 0 #[.val (.ref a)] [] := by first | (simp [entryFrame, mkF, argsToLocals, Value.category, maxLocals]; done) | rfl
theorem pn_java_lang_AbstractStringBuilder_length___I : plainFor (⟨"java/lang/AbstractStringBuilder", "length", "()I"⟩ : MethodName) = true := by first | exact plainFor_of_name (by first | (simp [plainName, overriddenIn]; done) | decide +kernel) | decide +kernel
theorem d26_0 : decode jdk_68_method_6_code 0 = .ok (.aload_n 0, 1) := by decide +kernel
theorem d26_1 : decode jdk_68_method_6_code 1 = .ok (.getfield 79, 3) := by decide +kernel
theorem d26_4 : decode jdk_68_method_6_code 4 = .ok (.ireturn, 1) := by decide +kernel
theorem ef_rm25 (a : Addr) (x : Int32) (m : MethodId) : entryFrame m #[(.ref a)] 1 = mkF m 0 #[.val (.ref a)] [] := by first | (simp [entryFrame, mkF, argsToLocals, Value.category, maxLocals]; done) | rfl
theorem pn_java_lang_StringBuilder_length___I : plainFor (⟨"java/lang/StringBuilder", "length", "()I"⟩ : MethodName) = true := by first | exact plainFor_of_name (by first | (simp [plainName, overriddenIn]; done) | decide +kernel) | decide +kernel
theorem d25_0 : decode jdk_67_method_93_code 0 = .ok (.aload_n 0, 1) := by decide +kernel
theorem d25_1 : decode jdk_67_method_93_code 1 = .ok (.invokespecial 343, 3) := by decide +kernel
theorem pd__28_29I : parseMethodDescriptor "()I" = some ⟨[], some .int⟩ := by decide +kernel
theorem d25_4 : decode jdk_67_method_93_code 4 = .ok (.ireturn, 1) := by decide +kernel
theorem ef_rm27 (a : Addr) (m : MethodId) : entryFrame m #[(.ref a)] 1 = mkF m 0 #[.val (.ref a)] [] := by first | (simp [entryFrame, mkF, argsToLocals, Value.category, maxLocals]; done) | rfl
theorem pn_java_lang_AbstractStringBuilder_isLatin1___Z : plainFor (⟨"java/lang/AbstractStringBuilder", "isLatin1", "()Z"⟩ : MethodName) = true := by first | exact plainFor_of_name (by first | (simp [plainName, overriddenIn]; done) | decide +kernel) | decide +kernel
theorem d27_0 : decode jdk_68_method_68_code 0 = .ok (.getstatic 18, 3) := by decide +kernel
theorem d27_3 : decode jdk_68_method_68_code 3 = .ok (.ifCond .eq 14, 3) := by decide +kernel
theorem d27_6 : decode jdk_68_method_68_code 6 = .ok (.aload_n 0, 1) := by decide +kernel
theorem d27_7 : decode jdk_68_method_68_code 7 = .ok (.getfield 22, 3) := by decide +kernel
theorem d27_10 : decode jdk_68_method_68_code 10 = .ok (.ifCond .ne 7, 3) := by decide +kernel
theorem d27_13 : decode jdk_68_method_68_code 13 = .ok (.iconst 1, 1) := by decide +kernel
theorem d27_14 : decode jdk_68_method_68_code 14 = .ok (.goto 4, 3) := by decide +kernel
theorem d27_18 : decode jdk_68_method_68_code 18 = .ok (.ireturn, 1) := by decide +kernel
theorem ef_rs_crb11 (b : Addr) (kb : ClassId) (e0 : Value) (e1 : Value) (e2 : Value) (e3 : Value) (e4 : Value) (e5 : Value) (e6 : Value) (e7 : Value) (e8 : Value) (e9 : Value) (e10 : Value) (e11 : Value) (e12 : Value) (e13 : Value) (e14 : Value) (e15 : Value) (m : MethodId) : entryFrame m #[(.ref b), (.int 0), (.int 11)] 5 = mkF m 0 #[.val (.ref b), .val (.int 0), .val (.int 11), .unset, .unset] [] := by first | (simp [entryFrame, mkF, argsToLocals, Value.category, maxLocals]; done) | rfl
theorem pn_java_util_Arrays_copyOfRangeByte___BII__B : plainFor (⟨"java/util/Arrays", "copyOfRangeByte", "([BII)[B"⟩ : MethodName) = true := by first | exact plainFor_of_name (by first | (simp [plainName, overriddenIn]; done) | decide +kernel) | decide +kernel
theorem d29_0 : decode jdk_65_method_133_code 0 = .ok (.iload_n 1, 1) := by decide +kernel
theorem d29_1 : decode jdk_65_method_133_code 1 = .ok (.iload_n 2, 1) := by decide +kernel
theorem d29_2 : decode jdk_65_method_133_code 2 = .ok (.invokestatic 343, 3) := by decide +kernel
theorem pd__28II_29V : parseMethodDescriptor "(II)V" = some ⟨[.int, .int], none⟩ := by decide +kernel
theorem d29_5 : decode jdk_65_method_133_code 5 = .ok (.iload_n 2, 1) := by decide +kernel
theorem d29_6 : decode jdk_65_method_133_code 6 = .ok (.iload_n 1, 1) := by decide +kernel
theorem d29_7 : decode jdk_65_method_133_code 7 = .ok (.isub, 1) := by decide +kernel
theorem d29_8 : decode jdk_65_method_133_code 8 = .ok (.istore_n 3, 1) := by decide +kernel
theorem d29_9 : decode jdk_65_method_133_code 9 = .ok (.iload_n 3, 1) := by decide +kernel
theorem d29_10 : decode jdk_65_method_133_code 10 = .ok (.newarray .byte, 2) := by decide +kernel
theorem d29_12 : decode jdk_65_method_133_code 12 = .ok (.astore 4, 2) := by decide +kernel
theorem d29_14 : decode jdk_65_method_133_code 14 = .ok (.aload_n 0, 1) := by decide +kernel
theorem d29_15 : decode jdk_65_method_133_code 15 = .ok (.iload_n 1, 1) := by decide +kernel
theorem d29_16 : decode jdk_65_method_133_code 16 = .ok (.aload 4, 2) := by decide +kernel
theorem d29_18 : decode jdk_65_method_133_code 18 = .ok (.iconst 0, 1) := by decide +kernel
theorem d29_19 : decode jdk_65_method_133_code 19 = .ok (.aload_n 0, 1) := by decide +kernel
theorem d29_20 : decode jdk_65_method_133_code 20 = .ok (.arraylength, 1) := by decide +kernel
theorem d29_21 : decode jdk_65_method_133_code 21 = .ok (.iload_n 1, 1) := by decide +kernel
theorem d29_22 : decode jdk_65_method_133_code 22 = .ok (.isub, 1) := by decide +kernel
theorem d29_23 : decode jdk_65_method_133_code 23 = .ok (.iload_n 3, 1) := by decide +kernel
theorem d29_24 : decode jdk_65_method_133_code 24 = .ok (.invokestatic 304, 3) := by decide +kernel
theorem pd__28II_29I : parseMethodDescriptor "(II)I" = some ⟨[.int, .int], some .int⟩ := by decide +kernel
theorem d29_27 : decode jdk_65_method_133_code 27 = .ok (.invokestatic 150, 3) := by decide +kernel
theorem d29_30 : decode jdk_65_method_133_code 30 = .ok (.aload 4, 2) := by decide +kernel
theorem d29_32 : decode jdk_65_method_133_code 32 = .ok (.areturn, 1) := by decide +kernel
theorem ef_rs_cr11 (b : Addr) (kb : ClassId) (e0 : Value) (e1 : Value) (e2 : Value) (e3 : Value) (e4 : Value) (e5 : Value) (e6 : Value) (e7 : Value) (e8 : Value) (e9 : Value) (e10 : Value) (e11 : Value) (e12 : Value) (e13 : Value) (e14 : Value) (e15 : Value) (m : MethodId) : entryFrame m #[(.ref b), (.int 0), (.int 11)] 3 = mkF m 0 #[.val (.ref b), .val (.int 0), .val (.int 11)] [] := by first | (simp [entryFrame, mkF, argsToLocals, Value.category, maxLocals]; done) | rfl
theorem pn_java_util_Arrays_copyOfRange___BII__B : plainFor (⟨"java/util/Arrays", "copyOfRange", "([BII)[B"⟩ : MethodName) = true := by first | exact plainFor_of_name (by first | (simp [plainName, overriddenIn]; done) | decide +kernel) | decide +kernel
theorem d28_0 : decode jdk_65_method_132_code 0 = .ok (.iload_n 1, 1) := by decide +kernel
theorem d28_1 : decode jdk_65_method_132_code 1 = .ok (.ifCond .ne 9, 3) := by decide +kernel
theorem d28_4 : decode jdk_65_method_132_code 4 = .ok (.iload_n 2, 1) := by decide +kernel
theorem d28_5 : decode jdk_65_method_132_code 5 = .ok (.aload_n 0, 1) := by decide +kernel
theorem d28_6 : decode jdk_65_method_132_code 6 = .ok (.arraylength, 1) := by decide +kernel
theorem d28_7 : decode jdk_65_method_132_code 7 = .ok (.if_icmp .eq 10, 3) := by decide +kernel
theorem d28_10 : decode jdk_65_method_132_code 10 = .ok (.aload_n 0, 1) := by decide +kernel
theorem d28_11 : decode jdk_65_method_132_code 11 = .ok (.iload_n 1, 1) := by decide +kernel
theorem d28_12 : decode jdk_65_method_132_code 12 = .ok (.iload_n 2, 1) := by decide +kernel
theorem d28_13 : decode jdk_65_method_132_code 13 = .ok (.invokestatic 339, 3) := by decide +kernel
theorem pd__28_5bBII_29_5bB : parseMethodDescriptor "([BII)[B" = some ⟨[(.array .byte), .int, .int], some (.array .byte)⟩ := by decide +kernel
theorem d28_16 : decode jdk_65_method_132_code 16 = .ok (.areturn, 1) := by decide +kernel
theorem ef_rs_iv11 (a : Addr) (y : Value) (z : Int32) (b : Addr) (d : Addr) (kd : ClassId) (y0 : Int32) (y1 : Int32) (y2 : Int32) (y3 : Int32) (y4 : Int32) (y5 : Int32) (y6 : Int32) (y7 : Int32) (y8 : Int32) (y9 : Int32) (y10 : Int32) (e11 : Value) (e12 : Value) (e13 : Value) (e14 : Value) (e15 : Value) (m : MethodId) : entryFrame m #[(.ref a), (.ref b), .null] 5 = mkF m 0 #[.val (.ref a), .val (.ref b), .val .null, .unset, .unset] [] := by first | (simp [entryFrame, mkF, argsToLocals, Value.category, maxLocals]; done) | rfl
theorem pn_java_lang_String__init___Ljava_lang_AbstractStringBuilder_Ljava_lang_Void__V : plainFor (⟨"java/lang/String", "<init>", "(Ljava/lang/AbstractStringBuilder;Ljava/lang/Void;)V"⟩ : MethodName) = true := by first | exact plainFor_of_name (by first | (simp [plainName, overriddenIn]; done) | decide +kernel) | decide +kernel
theorem d23_0 : decode jdk_42_method_150_code 0 = .ok (.aload_n 0, 1) := by decide +kernel
theorem d23_1 : decode jdk_42_method_150_code 1 = .ok (.invokespecial 1, 3) := by decide +kernel
theorem d23_4 : decode jdk_42_method_150_code 4 = .ok (.aload_n 1, 1) := by decide +kernel
theorem d23_5 : decode jdk_42_method_150_code 5 = .ok (.invokevirtual 552, 3) := by decide +kernel
theorem pd__28_29_5bB : parseMethodDescriptor "()[B" = some ⟨[], some (.array .byte)⟩ := by decide +kernel
theorem d23_8 : decode jdk_42_method_150_code 8 = .ok (.astore_n 3, 1) := by decide +kernel
theorem d23_9 : decode jdk_42_method_150_code 9 = .ok (.aload_n 1, 1) := by decide +kernel
theorem d23_10 : decode jdk_42_method_150_code 10 = .ok (.invokevirtual 549, 3) := by decide +kernel
theorem d23_13 : decode jdk_42_method_150_code 13 = .ok (.istore 4, 2) := by decide +kernel
theorem d23_15 : decode jdk_42_method_150_code 15 = .ok (.aload_n 1, 1) := by decide +kernel
theorem d23_16 : decode jdk_42_method_150_code 16 = .ok (.invokevirtual 1047, 3) := by decide +kernel
theorem pd__28_29Z : parseMethodDescriptor "()Z" = some ⟨[], some .boolean⟩ := by decide +kernel
theorem d23_19 : decode jdk_42_method_150_code 19 = .ok (.ifCond .eq 22, 3) := by decide +kernel
theorem d23_22 : decode jdk_42_method_150_code 22 = .ok (.aload_n 0, 1) := by decide +kernel
theorem d23_23 : decode jdk_42_method_150_code 23 = .ok (.iconst 0, 1) := by decide +kernel
theorem d23_24 : decode jdk_42_method_150_code 24 = .ok (.putfield 15, 3) := by decide +kernel
theorem d23_27 : decode jdk_42_method_150_code 27 = .ok (.aload_n 0, 1) := by decide +kernel
theorem d23_28 : decode jdk_42_method_150_code 28 = .ok (.aload_n 3, 1) := by decide +kernel
theorem d23_29 : decode jdk_42_method_150_code 29 = .ok (.iconst 0, 1) := by decide +kernel
theorem d23_30 : decode jdk_42_method_150_code 30 = .ok (.iload 4, 2) := by decide +kernel
theorem d23_32 : decode jdk_42_method_150_code 32 = .ok (.invokestatic 54, 3) := by decide +kernel
theorem d23_35 : decode jdk_42_method_150_code 35 = .ok (.putfield 9, 3) := by decide +kernel
theorem d23_38 : decode jdk_42_method_150_code 38 = .ok (.goto 59, 3) := by decide +kernel
theorem d23_97 : decode jdk_42_method_150_code 97 = .ok (.return_, 1) := by decide +kernel
theorem ef_rs_is11 (a : Addr) (y : Value) (z : Int32) (b : Addr) (d : Addr) (kd : ClassId) (y0 : Int32) (y1 : Int32) (y2 : Int32) (y3 : Int32) (y4 : Int32) (y5 : Int32) (y6 : Int32) (y7 : Int32) (y8 : Int32) (y9 : Int32) (y10 : Int32) (e11 : Value) (e12 : Value) (e13 : Value) (e14 : Value) (e15 : Value) (m : MethodId) : entryFrame m #[(.ref a), (.ref b)] 2 = mkF m 0 #[.val (.ref a), .val (.ref b)] [] := by first | (simp [entryFrame, mkF, argsToLocals, Value.category, maxLocals]; done) | rfl
theorem pn_java_lang_String__init___Ljava_lang_StringBuilder__V : plainFor (⟨"java/lang/String", "<init>", "(Ljava/lang/StringBuilder;)V"⟩ : MethodName) = true := by first | exact plainFor_of_name (by first | (simp [plainName, overriddenIn]; done) | decide +kernel) | decide +kernel
theorem d22_0 : decode jdk_42_method_53_code 0 = .ok (.aload_n 0, 1) := by decide +kernel
theorem d22_1 : decode jdk_42_method_53_code 1 = .ok (.aload_n 1, 1) := by decide +kernel
theorem d22_2 : decode jdk_42_method_53_code 2 = .ok (.aconst_null, 1) := by decide +kernel
theorem d22_3 : decode jdk_42_method_53_code 3 = .ok (.invokespecial 489, 3) := by decide +kernel
theorem pd__28Ljava_2flang_2fAbstractStringBuilder_3bLjava_2flang_2fVoid_3b_29V : parseMethodDescriptor "(Ljava/lang/AbstractStringBuilder;Ljava/lang/Void;)V" = some ⟨[(.object "java/lang/AbstractStringBuilder"), (.object "java/lang/Void")], none⟩ := by decide +kernel
theorem d22_6 : decode jdk_42_method_53_code 6 = .ok (.return_, 1) := by decide +kernel
theorem ef_rs_ts11 (b : Addr) (d : Addr) (kd : ClassId) (y0 : Int32) (y1 : Int32) (y2 : Int32) (y3 : Int32) (y4 : Int32) (y5 : Int32) (y6 : Int32) (y7 : Int32) (y8 : Int32) (y9 : Int32) (y10 : Int32) (e11 : Value) (e12 : Value) (e13 : Value) (e14 : Value) (e15 : Value) (m : MethodId) : entryFrame m #[(.ref b)] 1 = mkF m 0 #[.val (.ref b)] [] := by first | (simp [entryFrame, mkF, argsToLocals, Value.category, maxLocals]; done) | rfl
theorem pn_java_lang_StringBuilder_toString___Ljava_lang_String_ : plainFor (⟨"java/lang/StringBuilder", "toString", "()Ljava/lang/String;"⟩ : MethodName) = true := by first | exact plainFor_of_name (by first | (simp [plainName, overriddenIn]; done) | decide +kernel) | decide +kernel
theorem d21_0 : decode jdk_67_method_42_code 0 = .ok (.new 18, 3) := by decide +kernel
theorem d21_3 : decode jdk_67_method_42_code 3 = .ok (.dup, 1) := by decide +kernel
theorem d21_4 : decode jdk_67_method_42_code 4 = .ok (.aload_n 0, 1) := by decide +kernel
theorem d21_5 : decode jdk_67_method_42_code 5 = .ok (.invokespecial 137, 3) := by decide +kernel
theorem pd__28Ljava_2flang_2fStringBuilder_3b_29V : parseMethodDescriptor "(Ljava/lang/StringBuilder;)V" = some ⟨[(.object "java/lang/StringBuilder")], none⟩ := by decide +kernel
theorem d21_8 : decode jdk_67_method_42_code 8 = .ok (.areturn, 1) := by decide +kernel
theorem ef_rs_crb12 (b : Addr) (kb : ClassId) (e0 : Value) (e1 : Value) (e2 : Value) (e3 : Value) (e4 : Value) (e5 : Value) (e6 : Value) (e7 : Value) (e8 : Value) (e9 : Value) (e10 : Value) (e11 : Value) (e12 : Value) (e13 : Value) (e14 : Value) (e15 : Value) (m : MethodId) : entryFrame m #[(.ref b), (.int 0), (.int 12)] 5 = mkF m 0 #[.val (.ref b), .val (.int 0), .val (.int 12), .unset, .unset] [] := by first | (simp [entryFrame, mkF, argsToLocals, Value.category, maxLocals]; done) | rfl
theorem ef_rs_cr12 (b : Addr) (kb : ClassId) (e0 : Value) (e1 : Value) (e2 : Value) (e3 : Value) (e4 : Value) (e5 : Value) (e6 : Value) (e7 : Value) (e8 : Value) (e9 : Value) (e10 : Value) (e11 : Value) (e12 : Value) (e13 : Value) (e14 : Value) (e15 : Value) (m : MethodId) : entryFrame m #[(.ref b), (.int 0), (.int 12)] 3 = mkF m 0 #[.val (.ref b), .val (.int 0), .val (.int 12)] [] := by first | (simp [entryFrame, mkF, argsToLocals, Value.category, maxLocals]; done) | rfl
theorem ef_rs_iv12 (a : Addr) (y : Value) (z : Int32) (b : Addr) (d : Addr) (kd : ClassId) (y0 : Int32) (y1 : Int32) (y2 : Int32) (y3 : Int32) (y4 : Int32) (y5 : Int32) (y6 : Int32) (y7 : Int32) (y8 : Int32) (y9 : Int32) (y10 : Int32) (y11 : Int32) (e12 : Value) (e13 : Value) (e14 : Value) (e15 : Value) (m : MethodId) : entryFrame m #[(.ref a), (.ref b), .null] 5 = mkF m 0 #[.val (.ref a), .val (.ref b), .val .null, .unset, .unset] [] := by first | (simp [entryFrame, mkF, argsToLocals, Value.category, maxLocals]; done) | rfl
theorem ef_rs_is12 (a : Addr) (y : Value) (z : Int32) (b : Addr) (d : Addr) (kd : ClassId) (y0 : Int32) (y1 : Int32) (y2 : Int32) (y3 : Int32) (y4 : Int32) (y5 : Int32) (y6 : Int32) (y7 : Int32) (y8 : Int32) (y9 : Int32) (y10 : Int32) (y11 : Int32) (e12 : Value) (e13 : Value) (e14 : Value) (e15 : Value) (m : MethodId) : entryFrame m #[(.ref a), (.ref b)] 2 = mkF m 0 #[.val (.ref a), .val (.ref b)] [] := by first | (simp [entryFrame, mkF, argsToLocals, Value.category, maxLocals]; done) | rfl
theorem ef_rs_ts12 (b : Addr) (d : Addr) (kd : ClassId) (y0 : Int32) (y1 : Int32) (y2 : Int32) (y3 : Int32) (y4 : Int32) (y5 : Int32) (y6 : Int32) (y7 : Int32) (y8 : Int32) (y9 : Int32) (y10 : Int32) (y11 : Int32) (e12 : Value) (e13 : Value) (e14 : Value) (e15 : Value) (m : MethodId) : entryFrame m #[(.ref b)] 1 = mkF m 0 #[.val (.ref b)] [] := by first | (simp [entryFrame, mkF, argsToLocals, Value.category, maxLocals]; done) | rfl
theorem ef_rs_crb13 (b : Addr) (kb : ClassId) (e0 : Value) (e1 : Value) (e2 : Value) (e3 : Value) (e4 : Value) (e5 : Value) (e6 : Value) (e7 : Value) (e8 : Value) (e9 : Value) (e10 : Value) (e11 : Value) (e12 : Value) (e13 : Value) (e14 : Value) (e15 : Value) (m : MethodId) : entryFrame m #[(.ref b), (.int 0), (.int 13)] 5 = mkF m 0 #[.val (.ref b), .val (.int 0), .val (.int 13), .unset, .unset] [] := by first | (simp [entryFrame, mkF, argsToLocals, Value.category, maxLocals]; done) | rfl
theorem ef_rs_cr13 (b : Addr) (kb : ClassId) (e0 : Value) (e1 : Value) (e2 : Value) (e3 : Value) (e4 : Value) (e5 : Value) (e6 : Value) (e7 : Value) (e8 : Value) (e9 : Value) (e10 : Value) (e11 : Value) (e12 : Value) (e13 : Value) (e14 : Value) (e15 : Value) (m : MethodId) : entryFrame m #[(.ref b), (.int 0), (.int 13)] 3 = mkF m 0 #[.val (.ref b), .val (.int 0), .val (.int 13)] [] := by first | (simp [entryFrame, mkF, argsToLocals, Value.category, maxLocals]; done) | rfl
theorem ef_rs_iv13 (a : Addr) (y : Value) (z : Int32) (b : Addr) (d : Addr) (kd : ClassId) (y0 : Int32) (y1 : Int32) (y2 : Int32) (y3 : Int32) (y4 : Int32) (y5 : Int32) (y6 : Int32) (y7 : Int32) (y8 : Int32) (y9 : Int32) (y10 : Int32) (y11 : Int32) (y12 : Int32) (e13 : Value) (e14 : Value) (e15 : Value) (m : MethodId) : entryFrame m #[(.ref a), (.ref b), .null] 5 = mkF m 0 #[.val (.ref a), .val (.ref b), .val .null, .unset, .unset] [] := by first | (simp [entryFrame, mkF, argsToLocals, Value.category, maxLocals]; done) | rfl
theorem ef_rs_is13 (a : Addr) (y : Value) (z : Int32) (b : Addr) (d : Addr) (kd : ClassId) (y0 : Int32) (y1 : Int32) (y2 : Int32) (y3 : Int32) (y4 : Int32) (y5 : Int32) (y6 : Int32) (y7 : Int32) (y8 : Int32) (y9 : Int32) (y10 : Int32) (y11 : Int32) (y12 : Int32) (e13 : Value) (e14 : Value) (e15 : Value) (m : MethodId) : entryFrame m #[(.ref a), (.ref b)] 2 = mkF m 0 #[.val (.ref a), .val (.ref b)] [] := by first | (simp [entryFrame, mkF, argsToLocals, Value.category, maxLocals]; done) | rfl
theorem ef_rs_ts13 (b : Addr) (d : Addr) (kd : ClassId) (y0 : Int32) (y1 : Int32) (y2 : Int32) (y3 : Int32) (y4 : Int32) (y5 : Int32) (y6 : Int32) (y7 : Int32) (y8 : Int32) (y9 : Int32) (y10 : Int32) (y11 : Int32) (y12 : Int32) (e13 : Value) (e14 : Value) (e15 : Value) (m : MethodId) : entryFrame m #[(.ref b)] 1 = mkF m 0 #[.val (.ref b)] [] := by first | (simp [entryFrame, mkF, argsToLocals, Value.category, maxLocals]; done) | rfl
theorem ef_rs_em1 (a : Addr) (x0 : Int32) (m : MethodId) : entryFrame m #[(.ref a)] 1 = mkF m 0 #[.val (.ref a)] [] := by first | (simp [entryFrame, mkF, argsToLocals, Value.category, maxLocals]; done) | rfl
theorem pn_java_lang_String_isEmpty___Z : plainFor (⟨"java/lang/String", "isEmpty", "()Z"⟩ : MethodName) = true := by first | exact plainFor_of_name (by first | (simp [plainName, overriddenIn]; done) | decide +kernel) | decide +kernel
theorem d10_0 : decode jdk_42_method_55_code 0 = .ok (.aload_n 0, 1) := by decide +kernel
theorem d10_1 : decode jdk_42_method_55_code 1 = .ok (.getfield 9, 3) := by decide +kernel
theorem d10_4 : decode jdk_42_method_55_code 4 = .ok (.arraylength, 1) := by decide +kernel
theorem d10_5 : decode jdk_42_method_55_code 5 = .ok (.ifCond .ne 7, 3) := by decide +kernel
theorem d10_12 : decode jdk_42_method_55_code 12 = .ok (.iconst 0, 1) := by decide +kernel
theorem d10_13 : decode jdk_42_method_55_code 13 = .ok (.ireturn, 1) := by decide +kernel
theorem ef_rs_em2 (a : Addr) (x0 : Int32) (x1 : Int32) (m : MethodId) : entryFrame m #[(.ref a)] 1 = mkF m 0 #[.val (.ref a)] [] := by first | (simp [entryFrame, mkF, argsToLocals, Value.category, maxLocals]; done) | rfl
theorem ef_rs_em3 (a : Addr) (x0 : Int32) (x1 : Int32) (x2 : Int32) (m : MethodId) : entryFrame m #[(.ref a)] 1 = mkF m 0 #[.val (.ref a)] [] := by first | (simp [entryFrame, mkF, argsToLocals, Value.category, maxLocals]; done) | rfl
theorem ef_rm9 (a : Addr) (b : Addr) (m : MethodId) : entryFrame m #[(.ref a), (.ref b)] 2 = mkF m 0 #[.val (.ref a), .val (.ref b)] [] := by first | (simp [entryFrame, mkF, argsToLocals, Value.category, maxLocals]; done) | rfl
theorem pn_java_util_Objects_requireNonNull__Ljava_lang_Object_Ljava_lang_String__Ljava_lang_Object_ : plainFor (⟨"java/util/Objects", "requireNonNull", "(Ljava/lang/Object;Ljava/lang/String;)Ljava/lang/Object;"⟩ : MethodName) = true := by first | exact plainFor_of_name (by first | (simp [plainName, overriddenIn]; done) | decide +kernel) | decide +kernel
theorem d9_0 : decode jdk_31_method_11_code 0 = .ok (.aload_n 0, 1) := by decide +kernel
theorem d9_1 : decode jdk_31_method_11_code 1 = .ok (.ifnonnull 12, 3) := by decide +kernel
theorem d9_13 : decode jdk_31_method_11_code 13 = .ok (.aload_n 0, 1) := by decide +kernel
theorem d9_14 : decode jdk_31_method_11_code 14 = .ok (.areturn, 1) := by decide +kernel
theorem ef_rm_lk (a : Addr) (u : Addr) (cs : List Int32) (m : MethodId) : entryFrame m #[(.ref a), (.ref u)] 2 = mkF m 0 #[.val (.ref a), .val (.ref u)] [] := by first | (simp [entryFrame, mkF, argsToLocals, Value.category, maxLocals]; done) | rfl
theorem pn_com_example_synlock_synlock_LockKeys__init___Ljava_lang_String__V : plainFor (⟨"com/example/synlock/synlock/LockKeys", "<init>", "(Ljava/lang/String;)V"⟩ : MethodName) = true := by first | exact plainFor_of_name (by first | (simp [plainName, overriddenIn]; done) | decide +kernel) | decide +kernel
theorem d8_0 : decode prog_4_method_1_code 0 = .ok (.aload_n 0, 1) := by decide +kernel
theorem d8_1 : decode prog_4_method_1_code 1 = .ok (.invokespecial 1, 3) := by decide +kernel
theorem d8_4 : decode prog_4_method_1_code 4 = .ok (.aload_n 1, 1) := by decide +kernel
theorem d8_5 : decode prog_4_method_1_code 5 = .ok (.ldc 7, 2) := by decide +kernel
theorem own_wS {Z : State} {a0 : Array Value} (hw : ∀ d ∈ tables_1, d.before a0 Z = true) : ∀ d ∈ Bundle.stringAtoms, d.before a0 Z = true := fun d hd => hw d ((by decide +kernel : ∀ d ∈ Bundle.stringAtoms, d ∈ tables_1) d hd)
theorem own_ELne : own_EL ≠ [] := by unfold own_EL consts_1; exact List.cons_ne_nil _ _
theorem d8_7 : decode prog_4_method_1_code 7 = .ok (.invokestatic 9, 3) := by decide +kernel
theorem pd__28Ljava_2flang_2fObject_3bLjava_2flang_2fString_3b_29Ljava_2flang_2fObject_3b : parseMethodDescriptor "(Ljava/lang/Object;Ljava/lang/String;)Ljava/lang/Object;" = some ⟨[(.object "java/lang/Object"), (.object "java/lang/String")], some (.object "java/lang/Object")⟩ := by decide +kernel
theorem d8_10 : decode prog_4_method_1_code 10 = .ok (.pop, 1) := by decide +kernel
theorem d8_11 : decode prog_4_method_1_code 11 = .ok (.aload_n 1, 1) := by decide +kernel
theorem d8_12 : decode prog_4_method_1_code 12 = .ok (.invokevirtual 15, 3) := by decide +kernel
theorem d8_15 : decode prog_4_method_1_code 15 = .ok (.ifCond .eq 13, 3) := by decide +kernel
theorem d8_28 : decode prog_4_method_1_code 28 = .ok (.aload_n 0, 1) := by decide +kernel
theorem d8_29 : decode prog_4_method_1_code 29 = .ok (.new 28, 3) := by decide +kernel
theorem d8_32 : decode prog_4_method_1_code 32 = .ok (.dup, 1) := by decide +kernel
theorem d8_33 : decode prog_4_method_1_code 33 = .ok (.invokespecial 30, 3) := by decide +kernel
theorem pd__28_29V : parseMethodDescriptor "()V" = some ⟨[], none⟩ := by decide +kernel
theorem d8_36 : decode prog_4_method_1_code 36 = .ok (.ldc 33, 2) := by decide +kernel
def own_txt (i : Nat) : String := match tables_1[i]? with | some (.stringLink _ _ t) => t | _ => ""
def own_c (i j : Nat) : Int32 := Int32.ofNat ((own_txt i).toList.getD j 'a').toNat
theorem own_kv72 : (own_txt 72).toList.map (fun c => Value.int (Jvm.Lit.byteI c.toNat.toUInt16)) = [(.int (StrChars.lo8 (own_c 72 0))), (.int (StrChars.lo8 (own_c 72 1))), (.int (StrChars.lo8 (own_c 72 2))), (.int (StrChars.lo8 (own_c 72 3))), (.int (StrChars.lo8 (own_c 72 4))), (.int (StrChars.lo8 (own_c 72 5))), (.int (StrChars.lo8 (own_c 72 6))), (.int (StrChars.lo8 (own_c 72 7))), (.int (StrChars.lo8 (own_c 72 8)))] := by decide +kernel
theorem own_kl72 : ∀ c ∈ ([(own_c 72 0), (own_c 72 1), (own_c 72 2), (own_c 72 3), (own_c 72 4), (own_c 72 5), (own_c 72 6), (own_c 72 7), (own_c 72 8)] : List Int32), ¬ c < 0 ∧ ¬ (255 : Int32) < c := by decide +kernel
theorem d8_38 : decode prog_4_method_1_code 38 = .ok (.invokevirtual 35, 3) := by decide +kernel
theorem own_tx16 {Z : State} {a0 : Array Value} (hw : ∀ d ∈ tables_1, d.before a0 Z = true) : ∀ q ∈ own_EL, ∃ text : String, (Jvm.Cond.stringLink q.1 q.2 text).before a0 Z = true ∧ (∀ c ∈ text.toList, c.toNat < 256) ∧ text.toList.length ≠ (16 : Int32).toNatClampNeg := (own_txc (ow hw 42 rfl) (by decide) (by decide) (own_txc (ow hw 72 rfl) (by decide) (by decide) (own_txc (ow hw 120 rfl) (by decide) (by decide) (fun _ q => nomatch q))))
theorem pd__28Ljava_2flang_2fString_3b_29Ljava_2flang_2fStringBuilder_3b : parseMethodDescriptor "(Ljava/lang/String;)Ljava/lang/StringBuilder;" = some ⟨[(.object "java/lang/String")], some (.object "java/lang/StringBuilder")⟩ := by decide +kernel
theorem d8_41 : decode prog_4_method_1_code 41 = .ok (.aload_n 1, 1) := by decide +kernel
theorem d8_42 : decode prog_4_method_1_code 42 = .ok (.invokevirtual 35, 3) := by decide +kernel
theorem d8_45 : decode prog_4_method_1_code 45 = .ok (.ldc 39, 2) := by decide +kernel
theorem own_kv120 : (own_txt 120).toList.map (fun c => Value.int (Jvm.Lit.byteI c.toNat.toUInt16)) = [(.int (StrChars.lo8 (own_c 120 0)))] := by decide +kernel
theorem own_kl120 : ∀ c ∈ ([(own_c 120 0)] : List Int32), ¬ c < 0 ∧ ¬ (255 : Int32) < c := by decide +kernel
theorem d8_47 : decode prog_4_method_1_code 47 = .ok (.invokevirtual 35, 3) := by decide +kernel
theorem d8_50 : decode prog_4_method_1_code 50 = .ok (.invokevirtual 41, 3) := by decide +kernel
theorem pd__28_29Ljava_2flang_2fString_3b : parseMethodDescriptor "()Ljava/lang/String;" = some ⟨[], some (.object "java/lang/String")⟩ := by decide +kernel
theorem d8_53 : decode prog_4_method_1_code 53 = .ok (.putfield 45, 3) := by decide +kernel
theorem d8_56 : decode prog_4_method_1_code 56 = .ok (.return_, 1) := by decide +kernel
theorem ef_rm35 (a : Addr) (u : Addr) (m : MethodId) : entryFrame m #[(.ref a)] 1 = mkF m 0 #[.val (.ref a)] [] := by first | (simp [entryFrame, mkF, argsToLocals, Value.category, maxLocals]; done) | rfl
theorem pn_com_example_synlock_synlock_LockKeys_key___Ljava_lang_String_ : plainFor (⟨"com/example/synlock/synlock/LockKeys", "key", "()Ljava/lang/String;"⟩ : MethodName) = true := by first | exact plainFor_of_name (by first | (simp [plainName, overriddenIn]; done) | decide +kernel) | decide +kernel
theorem d35_0 : decode prog_4_method_2_code 0 = .ok (.aload_n 0, 1) := by decide +kernel
theorem d35_1 : decode prog_4_method_2_code 1 = .ok (.getfield 45, 3) := by decide +kernel
theorem d35_4 : decode prog_4_method_2_code 4 = .ok (.areturn, 1) := by decide +kernel
theorem ef_rm_eqN (a : Addr) (m : MethodId) : entryFrame m #[(.ref a), .null] 3 = mkF m 0 #[.val (.ref a), .val .null, .unset] [] := by first | (simp [entryFrame, mkF, argsToLocals, Value.category, maxLocals]; done) | rfl
theorem pn_com_example_synlock_synlock_LockKeys_equals__Ljava_lang_Object__Z : plainFor (⟨"com/example/synlock/synlock/LockKeys", "equals", "(Ljava/lang/Object;)Z"⟩ : MethodName) = true := by first | exact plainFor_of_name (by first | (simp [plainName, overriddenIn]; done) | decide +kernel) | decide +kernel
theorem d34_0 : decode prog_4_method_5_code 0 = .ok (.aload_n 1, 1) := by decide +kernel
theorem d34_1 : decode prog_4_method_5_code 1 = .ok (.instanceof 31, 3) := by decide +kernel
theorem d34_4 : decode prog_4_method_5_code 4 = .ok (.ifCond .eq 26, 3) := by decide +kernel
theorem d34_30 : decode prog_4_method_5_code 30 = .ok (.iconst 0, 1) := by decide +kernel
theorem d34_31 : decode prog_4_method_5_code 31 = .ok (.ireturn, 1) := by decide +kernel
theorem ef_rm_eqS (a : Addr) (b : Addr) (m : MethodId) : entryFrame m #[(.ref a), (.ref b)] 3 = mkF m 0 #[.val (.ref a), .val (.ref b), .unset] [] := by first | (simp [entryFrame, mkF, argsToLocals, Value.category, maxLocals]; done) | rfl
theorem ef_rm_eqK (a : Addr) (b : Addr) (u : Addr) (v : Addr) (cu : List Int32) (cv : List Int32) (m : MethodId) : entryFrame m #[(.ref a), (.ref b)] 3 = mkF m 0 #[.val (.ref a), .val (.ref b), .unset] [] := by first | (simp [entryFrame, mkF, argsToLocals, Value.category, maxLocals]; done) | rfl
theorem d34_7 : decode prog_4_method_5_code 7 = .ok (.aload_n 1, 1) := by decide +kernel
theorem d34_8 : decode prog_4_method_5_code 8 = .ok (.checkcast 31, 3) := by decide +kernel
theorem d34_11 : decode prog_4_method_5_code 11 = .ok (.astore_n 2, 1) := by decide +kernel
theorem d34_12 : decode prog_4_method_5_code 12 = .ok (.aload_n 0, 1) := by decide +kernel
theorem d34_13 : decode prog_4_method_5_code 13 = .ok (.getfield 45, 3) := by decide +kernel
theorem d34_16 : decode prog_4_method_5_code 16 = .ok (.aload_n 2, 1) := by decide +kernel
theorem d34_17 : decode prog_4_method_5_code 17 = .ok (.getfield 45, 3) := by decide +kernel
theorem d34_20 : decode prog_4_method_5_code 20 = .ok (.invokevirtual 56, 3) := by decide +kernel
theorem own_wE {Z : State} {a0 : Array Value} (hw : ∀ d ∈ tables_1, d.before a0 Z = true) : ∀ d ∈ StrChars.Road.wordsEq, d.before a0 Z = true := fun d hd => hw d ((by decide +kernel : ∀ d ∈ StrChars.Road.wordsEq, d ∈ tables_1) d hd)
theorem d34_23 : decode prog_4_method_5_code 23 = .ok (.ifCond .eq 7, 3) := by decide +kernel
theorem d34_26 : decode prog_4_method_5_code 26 = .ok (.iconst 1, 1) := by decide +kernel
theorem d34_27 : decode prog_4_method_5_code 27 = .ok (.goto 4, 3) := by decide +kernel
theorem ef_rm1 (x : Int32) (y : Int32) (m : MethodId) : entryFrame m #[(.int x), (.int y)] 6 = mkF m 0 #[.val (.int x), .val (.int y), .unset, .unset, .unset, .unset] [] := by first | (simp [entryFrame, mkF, argsToLocals, Value.category, maxLocals]; done) | rfl
theorem pn_com_example_synlock_synlock_LockKeysEqualsPinLaw_make__II_Ljava_lang_String_ : plainFor (⟨"com/example/synlock/synlock/LockKeysEqualsPinLaw", "make", "(II)Ljava/lang/String;"⟩ : MethodName) = true := by first | exact plainFor_of_name (by first | (simp [plainName, overriddenIn]; done) | decide +kernel) | decide +kernel
theorem d1_0 : decode method_3_code 0 = .ok (.iload_n 1, 1) := by decide +kernel
theorem d1_1 : decode method_3_code 1 = .ok (.sipush 255, 3) := by decide +kernel
theorem d1_4 : decode method_3_code 4 = .ok (.iand, 1) := by decide +kernel
theorem d1_5 : decode method_3_code 5 = .ok (.i2c, 1) := by decide +kernel
theorem d1_6 : decode method_3_code 6 = .ok (.istore_n 2, 1) := by decide +kernel
theorem d1_7 : decode method_3_code 7 = .ok (.iload_n 1, 1) := by decide +kernel
theorem d1_8 : decode method_3_code 8 = .ok (.bipush 8, 2) := by decide +kernel
theorem d1_10 : decode method_3_code 10 = .ok (.iushr, 1) := by decide +kernel
theorem d1_11 : decode method_3_code 11 = .ok (.sipush 255, 3) := by decide +kernel
theorem d1_14 : decode method_3_code 14 = .ok (.iand, 1) := by decide +kernel
theorem d1_15 : decode method_3_code 15 = .ok (.i2c, 1) := by decide +kernel
theorem d1_16 : decode method_3_code 16 = .ok (.istore_n 3, 1) := by decide +kernel
theorem d1_17 : decode method_3_code 17 = .ok (.iload_n 1, 1) := by decide +kernel
theorem d1_18 : decode method_3_code 18 = .ok (.bipush 16, 2) := by decide +kernel
theorem d1_20 : decode method_3_code 20 = .ok (.iushr, 1) := by decide +kernel
theorem d1_21 : decode method_3_code 21 = .ok (.sipush 255, 3) := by decide +kernel
theorem d1_24 : decode method_3_code 24 = .ok (.iand, 1) := by decide +kernel
theorem d1_25 : decode method_3_code 25 = .ok (.i2c, 1) := by decide +kernel
theorem d1_26 : decode method_3_code 26 = .ok (.istore 4, 2) := by decide +kernel
theorem d1_28 : decode method_3_code 28 = .ok (.iload_n 0, 1) := by decide +kernel
theorem d1_29 : decode method_3_code 29 = .ok (.iconst 1, 1) := by decide +kernel
theorem d1_30 : decode method_3_code 30 = .ok (.if_icmp .ne 23, 3) := by decide +kernel
theorem d1_33 : decode method_3_code 33 = .ok (.iconst 1, 1) := by decide +kernel
theorem d1_34 : decode method_3_code 34 = .ok (.newarray .char, 2) := by decide +kernel
theorem d1_36 : decode method_3_code 36 = .ok (.astore 5, 2) := by decide +kernel
theorem d1_38 : decode method_3_code 38 = .ok (.aload 5, 2) := by decide +kernel
theorem d1_40 : decode method_3_code 40 = .ok (.iconst 0, 1) := by decide +kernel
theorem d1_41 : decode method_3_code 41 = .ok (.iload_n 2, 1) := by decide +kernel
theorem d1_42 : decode method_3_code 42 = .ok (.castore, 1) := by decide +kernel
theorem d1_43 : decode method_3_code 43 = .ok (.new 20, 3) := by decide +kernel
theorem d1_46 : decode method_3_code 46 = .ok (.dup, 1) := by decide +kernel
theorem d1_47 : decode method_3_code 47 = .ok (.aload 5, 2) := by decide +kernel
theorem d1_49 : decode method_3_code 49 = .ok (.invokespecial 30, 3) := by decide +kernel
theorem own_wV {Z : State} {a0 : Array Value} (hw : ∀ d ∈ tables_1, d.before a0 Z = true) : ∀ d ∈ StrChars.Road.words, d.before a0 Z = true := fun d hd => hw d ((by decide +kernel : ∀ d ∈ StrChars.Road.words, d ∈ tables_1) d hd)
theorem pd__28_5bC_29V : parseMethodDescriptor "([C)V" = some ⟨[(.array .char)], none⟩ := by decide +kernel
theorem d1_52 : decode method_3_code 52 = .ok (.areturn, 1) := by decide +kernel
theorem d1_53 : decode method_3_code 53 = .ok (.iload_n 0, 1) := by decide +kernel
theorem d1_54 : decode method_3_code 54 = .ok (.iconst 2, 1) := by decide +kernel
theorem d1_55 : decode method_3_code 55 = .ok (.if_icmp .ne 28, 3) := by decide +kernel
theorem d1_58 : decode method_3_code 58 = .ok (.iconst 2, 1) := by decide +kernel
theorem d1_59 : decode method_3_code 59 = .ok (.newarray .char, 2) := by decide +kernel
theorem d1_61 : decode method_3_code 61 = .ok (.astore 5, 2) := by decide +kernel
theorem d1_63 : decode method_3_code 63 = .ok (.aload 5, 2) := by decide +kernel
theorem d1_65 : decode method_3_code 65 = .ok (.iconst 0, 1) := by decide +kernel
theorem d1_66 : decode method_3_code 66 = .ok (.iload_n 2, 1) := by decide +kernel
theorem d1_67 : decode method_3_code 67 = .ok (.castore, 1) := by decide +kernel
theorem d1_68 : decode method_3_code 68 = .ok (.aload 5, 2) := by decide +kernel
theorem d1_70 : decode method_3_code 70 = .ok (.iconst 1, 1) := by decide +kernel
theorem d1_71 : decode method_3_code 71 = .ok (.iload_n 3, 1) := by decide +kernel
theorem d1_72 : decode method_3_code 72 = .ok (.castore, 1) := by decide +kernel
theorem d1_73 : decode method_3_code 73 = .ok (.new 20, 3) := by decide +kernel
theorem d1_76 : decode method_3_code 76 = .ok (.dup, 1) := by decide +kernel
theorem d1_77 : decode method_3_code 77 = .ok (.aload 5, 2) := by decide +kernel
theorem d1_79 : decode method_3_code 79 = .ok (.invokespecial 30, 3) := by decide +kernel
theorem d1_82 : decode method_3_code 82 = .ok (.areturn, 1) := by decide +kernel
theorem d1_83 : decode method_3_code 83 = .ok (.iconst 3, 1) := by decide +kernel
theorem d1_84 : decode method_3_code 84 = .ok (.newarray .char, 2) := by decide +kernel
theorem d1_86 : decode method_3_code 86 = .ok (.astore 5, 2) := by decide +kernel
theorem d1_88 : decode method_3_code 88 = .ok (.aload 5, 2) := by decide +kernel
theorem d1_90 : decode method_3_code 90 = .ok (.iconst 0, 1) := by decide +kernel
theorem d1_91 : decode method_3_code 91 = .ok (.iload_n 2, 1) := by decide +kernel
theorem d1_92 : decode method_3_code 92 = .ok (.castore, 1) := by decide +kernel
theorem d1_93 : decode method_3_code 93 = .ok (.aload 5, 2) := by decide +kernel
theorem d1_95 : decode method_3_code 95 = .ok (.iconst 1, 1) := by decide +kernel
theorem d1_96 : decode method_3_code 96 = .ok (.iload_n 3, 1) := by decide +kernel
theorem d1_97 : decode method_3_code 97 = .ok (.castore, 1) := by decide +kernel
theorem d1_98 : decode method_3_code 98 = .ok (.aload 5, 2) := by decide +kernel
theorem d1_100 : decode method_3_code 100 = .ok (.iconst 2, 1) := by decide +kernel
theorem d1_101 : decode method_3_code 101 = .ok (.iload 4, 2) := by decide +kernel
theorem d1_103 : decode method_3_code 103 = .ok (.castore, 1) := by decide +kernel
theorem d1_104 : decode method_3_code 104 = .ok (.new 20, 3) := by decide +kernel
theorem d1_107 : decode method_3_code 107 = .ok (.dup, 1) := by decide +kernel
theorem d1_108 : decode method_3_code 108 = .ok (.aload 5, 2) := by decide +kernel
theorem d1_110 : decode method_3_code 110 = .ok (.invokespecial 30, 3) := by decide +kernel
theorem d1_113 : decode method_3_code 113 = .ok (.areturn, 1) := by decide +kernel
theorem ef_rm0 (pl : Int32) (pa : Int32) (pb : Int32) (pm : Int32) (m : MethodId) : entryFrame m #[(.int pl), (.int pa), (.int pb), (.int pm)] maxLocals = mkF m 0 #[.val (.int pl), .val (.int pa), .val (.int pb), .val (.int pm), .unset, .unset, .unset, .unset, .unset, .unset, .unset, .unset] [] := by first | (simp [entryFrame, mkF, argsToLocals, Value.category, maxLocals]; done) | rfl
theorem pn_com_example_synlock_synlock_LockKeysEqualsPinLaw_law__IIII_Z : plainFor (⟨"com/example/synlock/synlock/LockKeysEqualsPinLaw", "law", "(IIII)Z"⟩ : MethodName) = true := by first | exact plainFor_of_name (by first | (simp [plainName, overriddenIn]; done) | decide +kernel) | decide +kernel
theorem pd__28II_29Ljava_2flang_2fString_3b : parseMethodDescriptor "(II)Ljava/lang/String;" = some ⟨[.int, .int], some (.object "java/lang/String")⟩ := by decide +kernel
theorem pd__28Ljava_2flang_2fObject_3b_29Z : parseMethodDescriptor "(Ljava/lang/Object;)Z" = some ⟨[(.object "java/lang/Object")], some .boolean⟩ := by decide +kernel
def own_key (cs : List Int32) : List Int32 := [(own_c 72 0), (own_c 72 1), (own_c 72 2), (own_c 72 3), (own_c 72 4), (own_c 72 5), (own_c 72 6), (own_c 72 7), (own_c 72 8)] ++ (cs ++ [(own_c 120 0)])
theorem own_lapp {a b : List Int32} (h : ∀ c ∈ a, ¬ c < 0 ∧ ¬ (255 : Int32) < c) (k : ∀ c ∈ b, ¬ c < 0 ∧ ¬ (255 : Int32) < c) : ∀ c ∈ a ++ b, ¬ c < 0 ∧ ¬ (255 : Int32) < c := fun c hc => (List.mem_append.mp hc).elim (h c) (k c)
theorem own_eqb1 {a b : List Int32} (h : ¬ own_eqb a b = 0) : own_eqb a b = 1 := by
  unfold own_eqb at h ⊢
  split
  · rfl
  · rename_i q; rw [if_neg q] at h; exact absurd rfl h
theorem own_eqbr (a : List Int32) : own_eqb a a = 1 := if_pos rfl
theorem own_eqk (a b : List Int32) : own_eqb (own_key a) (own_key b) = own_eqb a b := by
  unfold own_eqb own_key
  simp only [List.append_cancel_left_eq, List.append_cancel_right_eq]
set_option maxRecDepth 65536
set_option maxHeartbeats 40000000
theorem rm12 (l : Launch) (Z : State) (a0 : Array Value) (hw : ∀ d ∈ tables_1, d.before a0 Z = true) (n0 : Nat) (h0 : Heap) (hWd : OWorld Z a0) (wc : List Jvm.Cond) (O0 : Old Z n0 h0) (a : Addr) (y : Value) (z : Int32) (w : Int32) (q0 : Exa Z h0 a "java/lang/StringBuilder") (q1 : Fld Z h0 a "java/lang/AbstractStringBuilder" "value" "[B" y) (q2 : Fld Z h0 a "java/lang/AbstractStringBuilder" "coder" "B" (.int z)) (q3 : Fld Z h0 a "java/lang/AbstractStringBuilder" "count" "I" (.int w)) (g0 : n0 ≤ a ∧ a < h0.size) :
    OMet l Z own_EL n0 (⟨"java/lang/AbstractStringBuilder", "<init>", "(I)V"⟩ : MethodName) (Jvm.Cond.code (⟨"java/lang/AbstractStringBuilder", "<init>", "(I)V"⟩ : MethodName) jdk_68_method_2_code 2 none :: wc) ({ frames := 1, cells := 1, slots := 16, locals := 12 } : Room) #[(.ref a), (.int 16)] h0 [a] (fun vq hq => ∃ (d : Addr) (kd : ClassId), vq = none ∧ h0.size ≤ d ∧ Fld Z hq a "java/lang/AbstractStringBuilder" "value" "[B" (.ref d) ∧ Fld Z hq a "java/lang/AbstractStringBuilder" "coder" "B" (.int 0) ∧ Fld Z hq a "java/lang/AbstractStringBuilder" "count" "I" (.int w) ∧ Arv Z hq d kd .byte (16 : Int32) [(.int 0), (.int 0), (.int 0), (.int 0), (.int 0), (.int 0), (.int 0), (.int 0), (.int 0), (.int 0), (.int 0), (.int 0), (.int 0), (.int 0), (.int 0), (.int 0)] (.int 0)) := by
  refine own_enter #[.val (.ref a), .val (.int 16)] pn_java_lang_AbstractStringBuilder__init___I_V (ef_rm12 a y z w) hWd.1 O0 (allS g0 all0) ?_
  intro p e s m below meth c T0 X0 hnm hret
  refine og_aloadN X0 1 d12_0 rfl rfl rfl ?_
  refine own_obj0 X0 4 (a := a) d12_1 (ow hw 66 rfl) (ow hw 17 rfl) (ow hw 18 rfl) rfl (W := 0) rfl (by decide) (by decide) rfl ?_
  intro T1 X2
  refine own_getS X2 7 d12_4 (host := "") (Or.inl (ow hw 67 rfl)) Via.refl hWd.2.1 rfl ?_
  intro T3 X4
  refine og_ifN X4 10 d12_7 (XT.i0_eq_f hWd.2.2) rfl ?_
  refine og_aloadN X4 11 d12_10 rfl rfl rfl ?_
  refine og_iloadN X4 12 d12_11 rfl rfl ?_
  refine own_arr X4 14 d12_12 (ow hw 24 rfl) (by decide) (cap := 16) (by decide) (by decide) (by decide) (by decide) rfl ?_
  intro T5 h5 b5 kb5 X5 K5 G5 U5 A5
  have f6 : Arv Z h5 b5 kb5 .byte (16 : Int32) [(.int 0), (.int 0), (.int 0), (.int 0), (.int 0), (.int 0), (.int 0), (.int 0), (.int 0), (.int 0), (.int 0), (.int 0), (.int 0), (.int 0), (.int 0), (.int 0)] (.int 0) := A5
  have f7 := q1.keep K5 nin0
  have f8 := q0.keep K5
  have f9 := q2.keep K5 nin0
  have f10 := q3.keep K5 nin0
  refine own_put X5 17 d12_14 (host := "") (Or.inl (ow hw 68 rfl)) Via.refl f7 f8 (Or.inl (ow hw 69 rfl)) (ow hw 55 rfl) (ty := (.array .byte)) (by decide) rfl rfl (om 1 rfl) rfl ?_
  intro T11 h11 X11 W11 K11 F11
  have f12 := Fld.other W11 f9 (Or.inr (slot_ne (Or.inl (ow hw 71 rfl)) (Or.inl (ow hw 69 rfl)) (by decide) (t := .byte) (t' := (.array .byte)) (by decide) (by decide)))
  have f13 := Fld.other W11 f10 (Or.inr (slot_ne (Or.inl (ow hw 94 rfl)) (Or.inl (ow hw 69 rfl)) (by decide) (t := .int) (t' := (.array .byte)) (by decide) (by decide)))
  refine og_aloadN X11 18 d12_17 rfl rfl rfl ?_
  refine og_iconst X11 19 (0 : Int32) d12_18 rfl rfl ?_
  have f14 := f8.keep K11
  refine own_put X11 22 d12_19 (host := "") (Or.inl (ow hw 70 rfl)) Via.refl f12 f14 (Or.inl (ow hw 71 rfl)) (ow hw 55 rfl) (ty := .byte) (by decide) rfl rfl (om 1 rfl) rfl ?_
  intro T15 h15 X15 W15 K15 F15
  have f16 := Fld.other W15 F11 (Or.inr (slot_ne (Or.inl (ow hw 69 rfl)) (Or.inl (ow hw 71 rfl)) (by decide) (t := (.array .byte)) (t' := .byte) (by decide) (by decide)))
  have f17 := Fld.other W15 f13 (Or.inr (slot_ne (Or.inl (ow hw 94 rfl)) (Or.inl (ow hw 71 rfl)) (by decide) (t := .int) (t' := .byte) (by decide) (by decide)))
  refine og_goto X15 38 d12_22 (by decide) (by decide) ?_
  have f18 := f6.keep K11 (ninS (Nat.ne_of_gt (Nat.lt_of_lt_of_le q0.lt G5)) nin0)
  have f19 := f18.keep K15 (ninS (Nat.ne_of_gt (Nat.lt_of_lt_of_le q0.lt G5)) nin0)
  refine own_retV X15 d12_38 hret (by decide) (by decide) ?_
  exact ⟨_, _, rfl, G5, f16, F15, f17, f19⟩
theorem rm11 (l : Launch) (Z : State) (a0 : Array Value) (hw : ∀ d ∈ tables_1, d.before a0 Z = true) (n0 : Nat) (h0 : Heap) (hWd : OWorld Z a0) (wc : List Jvm.Cond) (O0 : Old Z n0 h0) (a : Addr) (y : Value) (z : Int32) (w : Int32) (q0 : Exa Z h0 a "java/lang/StringBuilder") (q1 : Fld Z h0 a "java/lang/AbstractStringBuilder" "value" "[B" y) (q2 : Fld Z h0 a "java/lang/AbstractStringBuilder" "coder" "B" (.int z)) (q3 : Fld Z h0 a "java/lang/AbstractStringBuilder" "count" "I" (.int w)) (g0 : n0 ≤ a ∧ a < h0.size) :
    OMet l Z own_EL n0 (⟨"java/lang/StringBuilder", "<init>", "()V"⟩ : MethodName) (Jvm.Cond.code (⟨"java/lang/StringBuilder", "<init>", "()V"⟩ : MethodName) jdk_67_method_1_code 1 none :: wc) ({ frames := 2, cells := 1, slots := 16, locals := 25 } : Room) #[(.ref a)] h0 [a] (fun vq hq => ∃ (d : Addr) (kd : ClassId), vq = none ∧ h0.size ≤ d ∧ Fld Z hq a "java/lang/AbstractStringBuilder" "value" "[B" (.ref d) ∧ Fld Z hq a "java/lang/AbstractStringBuilder" "coder" "B" (.int 0) ∧ Fld Z hq a "java/lang/AbstractStringBuilder" "count" "I" (.int w) ∧ Arv Z hq d kd .byte (16 : Int32) [(.int 0), (.int 0), (.int 0), (.int 0), (.int 0), (.int 0), (.int 0), (.int 0), (.int 0), (.int 0), (.int 0), (.int 0), (.int 0), (.int 0), (.int 0), (.int 0)] (.int 0)) := by
  refine own_enter #[.val (.ref a)] pn_java_lang_StringBuilder__init____V (ef_rm11 a y z w) hWd.1 O0 (allS g0 all0) ?_
  intro p e s m below meth c T0 X0 hnm hret
  refine og_aloadN X0 1 d11_0 rfl rfl rfl ?_
  refine og_bipush X0 3 (16 : Int32) d11_1 rfl rfl ?_
  refine own_spec X0 6 (a := a) (argsL := [(.int 16)]) (rest := []) d11_3 rfl (rm12 l Z a0 hw n0 h0 hWd [] X0.old a y z w q0 q1 q2 q3 (own_svb X0 (om 0 rfl))) (ow hw 60 rfl) (ow hw 61 rfl) (ow hw 64 rfl) (ow hw 65 rfl) (by decide) (lenOf pd__28I_29V rfl) rfl rfl rfl (W := 0) rfl (by decide) (by decide) (by decide) (by decide) (allS (om 0 rfl) all0) rfl ?_
  intro T1 h1 v1 X1 K1 hQ1
  obtain ⟨d1, kd1, rfl, ge_d1, f2, f3, f4, f5⟩ := hQ1
  show OGo _ _ _ _ T1 (mkF m 6 #[.val (.ref a)] [])
  refine own_retV X1 d11_6 hret (by decide) (by decide) ?_
  exact ⟨_, _, rfl, ge_d1, f2, f3, f4, f5⟩
theorem rs_cod (l : Launch) (Z : State) (a0 : Array Value) (hw : ∀ d ∈ tables_1, d.before a0 Z = true) (n0 : Nat) (h0 : Heap) (hWd : OWorld Z a0) (wc : List Jvm.Cond) (O0 : Old Z n0 h0) (a : Addr) (cs : List Int32) (q0 : OStr Z h0 a cs h0.size) (q1 : ∀ c ∈ cs, ¬ c < 0 ∧ ¬ (255 : Int32) < c) :
    OMet l Z own_EL n0 (⟨"java/lang/String", "coder", "()B"⟩ : MethodName) (Jvm.Cond.code (⟨"java/lang/String", "coder", "()B"⟩ : MethodName) jdk_42_method_152_code 1 (some .byte) :: wc) ({ frames := 0, cells := 0, slots := 0, locals := 0 } : Room) #[(.ref a)] h0 [] (fun vq hq => vq = some (.int 0)) := by
  refine own_enter #[.val (.ref a)] pn_java_lang_String_coder___B (ef_rs_cod a cs) hWd.1 O0 all0 ?_
  intro p e s m below meth c T0 X0 hnm hret
  obtain ⟨t, kt, NN, vv, eE, eC, eV, eA, cod, bd, l4⟩ := q0.latin (fun c hc => (q1 c hc).2)
  obtain ⟨-, rfl, rfl, -⟩ := cod.resolve_right fun q => absurd q.1 (by decide)
  refine own_getS X0 3 d16_0 (host := "") (Or.inl (ow hw 19 rfl)) Via.refl hWd.2.1 rfl ?_
  intro T1 X2
  refine og_ifN X2 6 d16_3 (XT.i0_eq_f hWd.2.2) rfl ?_
  refine og_aloadN X2 7 d16_6 rfl rfl rfl ?_
  refine own_get X2 10 d16_7 (host := "") (Or.inl (ow hw 31 rfl)) Via.refl eC rfl ?_
  intro T3 X4
  refine og_goto X4 14 d16_10 (by decide) (by decide) ?_
  refine own_retY X4 d16_14 hret rfl (by decide) (by decide) ?_
  exact rfl
theorem rs_inf (l : Launch) (Z : State) (a0 : Array Value) (hw : ∀ d ∈ tables_1, d.before a0 Z = true) (n0 : Nat) (h0 : Heap) (hWd : OWorld Z a0) (wc : List Jvm.Cond) (O0 : Old Z n0 h0) (a : Addr) (u : Addr) (cs : List Int32) (q0 : Fld Z h0 a "java/lang/AbstractStringBuilder" "coder" "B" (.int 0)) (q1 : OStr Z h0 u cs h0.size) (q2 : ∀ c ∈ cs, ¬ c < 0 ∧ ¬ (255 : Int32) < c) :
    OMet l Z own_EL n0 (⟨"java/lang/AbstractStringBuilder", "inflateIfNeededFor", "(Ljava/lang/String;)V"⟩ : MethodName) (Jvm.Cond.code (⟨"java/lang/AbstractStringBuilder", "inflateIfNeededFor", "(Ljava/lang/String;)V"⟩ : MethodName) jdk_68_method_71_code 2 none :: wc) ({ frames := 1, cells := 0, slots := 0, locals := 13 } : Room) #[(.ref a), (.ref u)] h0 [] (fun vq hq => vq = none) := by
  refine own_enter #[.val (.ref a), .val (.ref u)] pn_java_lang_AbstractStringBuilder_inflateIfNeededFor__Ljava_lang_String__V (ef_rs_inf a u cs) hWd.1 O0 all0 ?_
  intro p e s m below meth c T0 X0 hnm hret
  refine own_getS X0 3 d19_0 (host := "") (Or.inl (ow hw 67 rfl)) Via.refl hWd.2.1 rfl ?_
  intro T1 X2
  refine og_ifN X2 6 d19_3 (XT.i0_eq_f hWd.2.2) rfl ?_
  refine og_aloadN X2 7 d19_6 rfl rfl rfl ?_
  refine own_get X2 10 d19_7 (host := "") (Or.inl (ow hw 70 rfl)) Via.refl q0 rfl ?_
  intro T3 X4
  refine og_aloadN X4 11 d19_10 rfl rfl rfl ?_
  refine own_virt X4 14 (a := u) (argsL := []) (rest := [(.int 0)]) d19_11 q1.exa (fun _ hZ => notFace_of_selects (args := #[]) (mvT hZ (ow hw 91 rfl))) (rs_cod l Z a0 hw n0 h0 hWd [] X4.old u cs q1.top q2 ) (ow hw 110 rfl) (ow hw 89 rfl) (ow hw 91 rfl) (ow hw 90 rfl) (ow hw 8 rfl) (ow hw 92 rfl) (by decide) (lenOf pd__28_29B rfl) rfl rfl rfl (W := 1) rfl (by decide) (by decide) (by decide) (by decide) all0 rfl ?_
  intro T5 h5 v5 X5 K5 hQ5
  obtain rfl := hQ5
  show OGo _ _ _ _ T5 (mkF m 14 #[.val (.ref a), .val (.ref u)] [(.int 0), (.int 0)])
  refine og_icmpY X5 21 d19_14 (XT.ii_eq_t (by decide)) (by decide) (by decide) ?_
  refine own_retV X5 d19_21 hret (by decide) (by decide) ?_
  exact rfl
theorem rs_ens (l : Launch) (Z : State) (a0 : Array Value) (hw : ∀ d ∈ tables_1, d.before a0 Z = true) (n0 : Nat) (h0 : Heap) (hWd : OWorld Z a0) (wc : List Jvm.Cond) (O0 : Old Z n0 h0) (a : Addr) (d : Addr) (kd : ClassId) (vs : List Value) (x : Int32) (q0 : Fld Z h0 a "java/lang/AbstractStringBuilder" "value" "[B" (.ref d)) (q1 : Fld Z h0 a "java/lang/AbstractStringBuilder" "coder" "B" (.int 0)) (q2 : Arv Z h0 d kd .byte (16 : Int32) vs (.int 0)) (q3 : ¬ 0 < (x - (16 : Int32))) :
    OMet l Z own_EL n0 (⟨"java/lang/AbstractStringBuilder", "ensureCapacityInternal", "(I)V"⟩ : MethodName) (Jvm.Cond.code (⟨"java/lang/AbstractStringBuilder", "ensureCapacityInternal", "(I)V"⟩ : MethodName) jdk_68_method_9_code 3 none :: wc) ({ frames := 0, cells := 0, slots := 0, locals := 0 } : Room) #[(.ref a), (.int x)] h0 [] (fun vq hq => vq = none) := by
  refine own_enter #[.val (.ref a), .val (.int x), .unset] pn_java_lang_AbstractStringBuilder_ensureCapacityInternal__I_V (ef_rs_ens a d kd vs x) hWd.1 O0 all0 ?_
  intro p e s m below meth c T0 X0 hnm hret
  refine og_aloadN X0 1 d17_0 rfl rfl rfl ?_
  refine own_get X0 4 d17_1 (host := "") (Or.inl (ow hw 68 rfl)) Via.refl q0 rfl ?_
  intro T1 X2
  refine own_len X2 5 d17_4 q2 rfl ?_
  refine og_aloadN X2 6 d17_5 rfl rfl rfl ?_
  refine own_get X2 9 d17_6 (host := "") (Or.inl (ow hw 70 rfl)) Via.refl q1 rfl ?_
  intro T3 X4
  refine og_ishr X4 10 d17_9 rfl ?_
  show OGo _ _ _ _ T3 (mkF m 10 #[.val (.ref a), .val (.int x), .unset] [(.int 16)])
  refine og_istoreN X4 11 #[.val (.ref a), .val (.int x), .val (.int 16)] d17_10 rfl rfl ?_
  refine og_iloadN X4 12 d17_11 rfl rfl ?_
  refine og_iloadN X4 13 d17_12 rfl rfl ?_
  refine og_isub X4 14 d17_13 rfl ?_
  refine og_ifY X4 38 d17_14 (XT.i0_le_t q3) (by decide) (by decide) ?_
  refine own_retV X4 d17_38 hret (by decide) (by decide) ?_
  exact rfl
theorem rs_gb1_9 (l : Launch) (Z : State) (a0 : Array Value) (hw : ∀ d ∈ tables_1, d.before a0 Z = true) (n0 : Nat) (h0 : Heap) (hWd : OWorld Z a0) (wc : List Jvm.Cond) (O0 : Old Z n0 h0) (a : Addr) (d : Addr) (kd : ClassId) (x0 : Int32) (e0 : Value) (e1 : Value) (e2 : Value) (e3 : Value) (e4 : Value) (e5 : Value) (e6 : Value) (e7 : Value) (e8 : Value) (e9 : Value) (e10 : Value) (e11 : Value) (e12 : Value) (e13 : Value) (e14 : Value) (e15 : Value) (q0 : OStr Z h0 a [x0] h0.size) (q1 : ∀ c ∈ [x0], ¬ c < 0 ∧ ¬ (255 : Int32) < c) (q2 : Arv Z h0 d kd .byte (16 : Int32) [e0, e1, e2, e3, e4, e5, e6, e7, e8, e9, e10, e11, e12, e13, e14, e15] (.int 0)) (g0 : n0 ≤ d ∧ d < h0.size) :
    OMet l Z own_EL n0 (⟨"java/lang/String", "getBytes", "([BIB)V"⟩ : MethodName) (Jvm.Cond.code (⟨"java/lang/String", "getBytes", "([BIB)V"⟩ : MethodName) jdk_42_method_147_code 4 none :: wc) ({ frames := 1, cells := 0, slots := 0, locals := 40 } : Room) #[(.ref a), (.ref d), (.int 9), (.int 0)] h0 [d] (fun vq hq => vq = none ∧ Arv Z hq d kd .byte (16 : Int32) [e0, e1, e2, e3, e4, e5, e6, e7, e8, (.int (StrChars.lo8 x0)), e10, e11, e12, e13, e14, e15] (.int 0)) := by
  refine own_enter #[.val (.ref a), .val (.ref d), .val (.int 9), .val (.int 0)] pn_java_lang_String_getBytes___BIB_V (ef_rs_gb1_9 a d kd x0 e0 e1 e2 e3 e4 e5 e6 e7 e8 e9 e10 e11 e12 e13 e14 e15) hWd.1 O0 (allS g0 all0) ?_
  intro p e s m below meth c T0 X0 hnm hret
  refine og_aloadN X0 1 d20_0 rfl rfl rfl ?_
  refine own_virt X0 4 (a := a) (argsL := []) (rest := []) d20_1 q0.exa (fun _ hZ => notFace_of_selects (args := #[]) (mvT hZ (ow hw 91 rfl))) (rs_cod l Z a0 hw n0 h0 hWd [] X0.old a [x0] q0.top q1 ) (ow hw 88 rfl) (ow hw 89 rfl) (ow hw 91 rfl) (ow hw 90 rfl) (ow hw 8 rfl) (ow hw 92 rfl) (by decide) (lenOf pd__28_29B rfl) rfl rfl rfl (W := 0) rfl (by decide) (by decide) (by decide) (by decide) all0 rfl ?_
  intro T1 h1 v1 X1 K1 hQ1
  obtain rfl := hQ1
  show OGo _ _ _ _ T1 (mkF m 4 #[.val (.ref a), .val (.ref d), .val (.int 9), .val (.int 0)] [(.int 0)])
  refine og_iloadN X1 5 d20_4 rfl rfl ?_
  refine og_icmpN X1 8 d20_5 (XT.ii_ne_f (by decide)) rfl ?_
  obtain ⟨t, kt, NN, vv, eE, eC, eV, eA, cod, bd, l4⟩ := q0.latin (fun c hc => (q1 c hc).2)
  obtain ⟨-, rfl, rfl, -⟩ := cod.resolve_right fun q => absurd q.1 (by decide)
  have eA2 : Arv Z h0 t kt .byte (1 : Int32) [(.int (StrChars.lo8 x0))] (.int 0) := eA
  refine og_aloadN X1 9 d20_8 rfl rfl rfl ?_
  have f2 := eV.keep K1 nin0
  refine own_get X1 12 d20_9 (host := "") (Or.inl (ow hw 33 rfl)) Via.refl f2 rfl ?_
  intro T3 X4
  refine og_iconst X4 13 (0 : Int32) d20_12 rfl rfl ?_
  refine og_aloadN X4 14 d20_13 rfl rfl rfl ?_
  refine og_iloadN X4 15 d20_14 rfl rfl ?_
  refine og_iloadN X4 16 d20_15 rfl rfl ?_
  refine og_ishl X4 17 d20_16 rfl ?_
  show OGo _ _ _ _ T3 (mkF m 17 #[.val (.ref a), .val (.ref d), .val (.int 9), .val (.int 0)] [(.int 9), (.ref d), (.int 0), (.ref t)])
  refine og_aloadN X4 18 d20_17 rfl rfl rfl ?_
  refine own_get X4 21 d20_18 (host := "") (Or.inl (ow hw 33 rfl)) Via.refl f2 rfl ?_
  intro T5 X6
  have f7 := eA2.keep K1 nin0
  refine own_len X6 22 d20_21 f7 rfl ?_
  have f8 := q2.keep K1 nin0
  refine own_cp X6 25 (us := [(.int (StrChars.lo8 x0))]) (rest := []) d20_22 f7 f8 rfl (om 0 rfl) (ow hw 116 rfl) (ow hw 119 rfl) (ow hw 117 rfl) (ow hw 118 rfl) (by decide) (by decide) (by decide) (by decide) (by decide) rfl (Nat.le_of_ble_eq_true rfl) rfl (W := 0) rfl (by decide) (by decide) rfl ?_
  intro T9 h9 X9 K9 A9
  have f10 : Arv Z h9 d kd .byte (16 : Int32) [e0, e1, e2, e3, e4, e5, e6, e7, e8, (.int (StrChars.lo8 x0)), e10, e11, e12, e13, e14, e15] (.int 0) := A9
  show OGo _ _ _ _ T9 (mkF m 25 #[.val (.ref a), .val (.ref d), .val (.int 9), .val (.int 0)] [])
  refine og_goto X9 43 d20_25 (by decide) (by decide) ?_
  refine own_retV X9 d20_43 hret (by decide) (by decide) ?_
  exact ⟨rfl, f10⟩
theorem rs_ps1_9 (l : Launch) (Z : State) (a0 : Array Value) (hw : ∀ d ∈ tables_1, d.before a0 Z = true) (n0 : Nat) (h0 : Heap) (hWd : OWorld Z a0) (wc : List Jvm.Cond) (O0 : Old Z n0 h0) (a : Addr) (u : Addr) (d : Addr) (kd : ClassId) (x0 : Int32) (e0 : Value) (e1 : Value) (e2 : Value) (e3 : Value) (e4 : Value) (e5 : Value) (e6 : Value) (e7 : Value) (e8 : Value) (e9 : Value) (e10 : Value) (e11 : Value) (e12 : Value) (e13 : Value) (e14 : Value) (e15 : Value) (q0 : OStr Z h0 u [x0] h0.size) (q1 : ∀ c ∈ [x0], ¬ c < 0 ∧ ¬ (255 : Int32) < c) (q2 : Exa Z h0 a "java/lang/StringBuilder") (q3 : Fld Z h0 a "java/lang/AbstractStringBuilder" "value" "[B" (.ref d)) (q4 : Fld Z h0 a "java/lang/AbstractStringBuilder" "coder" "B" (.int 0)) (q5 : Arv Z h0 d kd .byte (16 : Int32) [e0, e1, e2, e3, e4, e5, e6, e7, e8, e9, e10, e11, e12, e13, e14, e15] (.int 0)) (g0 : n0 ≤ d ∧ d < h0.size) :
    OMet l Z own_EL n0 (⟨"java/lang/AbstractStringBuilder", "putStringAt", "(ILjava/lang/String;)V"⟩ : MethodName) (Jvm.Cond.code (⟨"java/lang/AbstractStringBuilder", "putStringAt", "(ILjava/lang/String;)V"⟩ : MethodName) jdk_68_method_73_code 3 none :: wc) ({ frames := 2, cells := 0, slots := 0, locals := 55 } : Room) #[(.ref a), (.int 9), (.ref u)] h0 [d] (fun vq hq => vq = none ∧ Arv Z hq d kd .byte (16 : Int32) [e0, e1, e2, e3, e4, e5, e6, e7, e8, (.int (StrChars.lo8 x0)), e10, e11, e12, e13, e14, e15] (.int 0)) := by
  refine own_enter #[.val (.ref a), .val (.int 9), .val (.ref u)] pn_java_lang_AbstractStringBuilder_putStringAt__ILjava_lang_String__V (ef_rs_ps1_9 a u d kd x0 e0 e1 e2 e3 e4 e5 e6 e7 e8 e9 e10 e11 e12 e13 e14 e15) hWd.1 O0 (allS g0 all0) ?_
  intro p e s m below meth c T0 X0 hnm hret
  refine og_aloadN X0 1 d18_0 rfl rfl rfl ?_
  refine og_aloadN X0 2 d18_1 rfl rfl rfl ?_
  refine own_priv X0 5 (a := a) (argsL := [(.ref u)]) (rest := []) d18_2 q2 (rs_inf l Z a0 hw n0 h0 hWd [] X0.old a u [x0] q4 q0.top q1 ) (ow hw 105 rfl) (ow hw 106 rfl) (own_selfsel (ow hw 106 rfl) (ow hw 108 rfl) (ow hw 107 rfl) (by decide)) (ow hw 107 rfl) (ow hw 64 rfl) (ow hw 109 rfl) (by decide) (lenOf pd__28Ljava_2flang_2fString_3b_29V rfl) rfl rfl rfl (W := 0) rfl (by decide) (by decide) (by decide) (by decide) all0 rfl ?_
  intro T1 h1 v1 X1 K1 hQ1
  obtain rfl := hQ1
  show OGo _ _ _ _ T1 (mkF m 5 #[.val (.ref a), .val (.int 9), .val (.ref u)] [])
  refine og_aloadN X1 6 d18_5 rfl rfl rfl ?_
  refine og_aloadN X1 7 d18_6 rfl rfl rfl ?_
  have f2 := q3.keep K1 nin0
  refine own_get X1 10 d18_7 (host := "") (Or.inl (ow hw 68 rfl)) Via.refl f2 rfl ?_
  intro T3 X4
  refine og_iloadN X4 11 d18_10 rfl rfl ?_
  refine og_aloadN X4 12 d18_11 rfl rfl rfl ?_
  have f5 := q4.keep K1 nin0
  refine own_get X4 15 d18_12 (host := "") (Or.inl (ow hw 70 rfl)) Via.refl f5 rfl ?_
  intro T6 X7
  have f8 := q0.exa.keep K1
  have f9 := q0.keep K1 all0
  have f10 := q5.keep K1 nin0
  refine own_virt X7 18 (a := u) (argsL := [(.ref d), (.int 9), (.int 0)]) (rest := []) d18_15 f8 (fun _ hZ => notFace_of_selects (args := #[]) (mvT hZ (ow hw 114 rfl))) (rs_gb1_9 l Z a0 hw n0 h1 hWd [] X7.old u d kd x0 e0 e1 e2 e3 e4 e5 e6 e7 e8 e9 e10 e11 e12 e13 e14 e15 f9.top q1 f10 (own_svb X7 (om 0 rfl))) (ow hw 111 rfl) (ow hw 112 rfl) (ow hw 114 rfl) (ow hw 113 rfl) (ow hw 8 rfl) (ow hw 115 rfl) (by decide) (lenOf pd__28_5bBIB_29V rfl) rfl rfl rfl (W := 0) rfl (by decide) (by decide) (by decide) (by decide) (allS (om 0 rfl) all0) rfl ?_
  intro T11 h11 v11 X11 K11 hQ11
  obtain ⟨rfl, f12⟩ := hQ11
  show OGo _ _ _ _ T11 (mkF m 18 #[.val (.ref a), .val (.int 9), .val (.ref u)] [])
  refine own_retV X11 d18_18 hret (by decide) (by decide) ?_
  exact ⟨rfl, f12⟩
theorem rs_aa1_9 (l : Launch) (Z : State) (a0 : Array Value) (hw : ∀ d ∈ tables_1, d.before a0 Z = true) (n0 : Nat) (h0 : Heap) (hWd : OWorld Z a0) (wc : List Jvm.Cond) (O0 : Old Z n0 h0) (a : Addr) (u : Addr) (d : Addr) (kd : ClassId) (x0 : Int32) (e0 : Value) (e1 : Value) (e2 : Value) (e3 : Value) (e4 : Value) (e5 : Value) (e6 : Value) (e7 : Value) (e8 : Value) (e9 : Value) (e10 : Value) (e11 : Value) (e12 : Value) (e13 : Value) (e14 : Value) (e15 : Value) (q0 : OStr Z h0 u [x0] h0.size) (q1 : ∀ c ∈ [x0], ¬ c < 0 ∧ ¬ (255 : Int32) < c) (q2 : Exa Z h0 a "java/lang/StringBuilder") (q3 : Fld Z h0 a "java/lang/AbstractStringBuilder" "value" "[B" (.ref d)) (q4 : Fld Z h0 a "java/lang/AbstractStringBuilder" "coder" "B" (.int 0)) (q5 : Fld Z h0 a "java/lang/AbstractStringBuilder" "count" "I" (.int 9)) (q6 : Arv Z h0 d kd .byte (16 : Int32) [e0, e1, e2, e3, e4, e5, e6, e7, e8, e9, e10, e11, e12, e13, e14, e15] (.int 0)) (g0 : n0 ≤ a ∧ a < h0.size) (g1 : n0 ≤ d ∧ d < h0.size) :
    OMet l Z own_EL n0 (⟨"java/lang/AbstractStringBuilder", "append", "(Ljava/lang/String;)Ljava/lang/AbstractStringBuilder;"⟩ : MethodName) (Jvm.Cond.code (⟨"java/lang/AbstractStringBuilder", "append", "(Ljava/lang/String;)Ljava/lang/AbstractStringBuilder;"⟩ : MethodName) jdk_68_method_22_code 3 (some (.object "java/lang/AbstractStringBuilder")) :: wc) ({ frames := 3, cells := 0, slots := 0, locals := 69 } : Room) #[(.ref a), (.ref u)] h0 [a, d] (fun vq hq => vq = some (.ref a) ∧ Fld Z hq a "java/lang/AbstractStringBuilder" "value" "[B" (.ref d) ∧ Fld Z hq a "java/lang/AbstractStringBuilder" "coder" "B" (.int 0) ∧ Fld Z hq a "java/lang/AbstractStringBuilder" "count" "I" (.int 10) ∧ Arv Z hq d kd .byte (16 : Int32) [e0, e1, e2, e3, e4, e5, e6, e7, e8, (.int (StrChars.lo8 x0)), e10, e11, e12, e13, e14, e15] (.int 0)) := by
  refine own_enter #[.val (.ref a), .val (.ref u), .unset] pn_java_lang_AbstractStringBuilder_append__Ljava_lang_String__Ljava_lang_AbstractStringBuilder_ (ef_rs_aa1_9 a u d kd x0 e0 e1 e2 e3 e4 e5 e6 e7 e8 e9 e10 e11 e12 e13 e14 e15) hWd.1 O0 (allS g0 (allS g1 all0)) ?_
  intro p e s m below meth c T0 X0 hnm hret
  refine og_aloadN X0 1 d14_0 rfl rfl rfl ?_
  refine og_nonnullY X0 9 d14_1 (by decide) (by decide) ?_
  refine og_aloadN X0 10 d14_9 rfl rfl rfl ?_
  refine own_strLen X0 13 d14_10 q0 (own_wL hw) (ow hw 7 rfl) hWd.2.1 hWd.2.2 (ow hw 83 rfl) (ow hw 84 rfl) (ow hw 86 rfl) (ow hw 85 rfl) rfl (W := 0) rfl (by decide) (by decide) (by decide) (by decide) rfl ?_
  intro T1 X2
  show OGo _ _ _ _ T1 (mkF m 13 #[.val (.ref a), .val (.ref u), .unset] [(.int 1)])
  refine og_istoreN X2 14 #[.val (.ref a), .val (.ref u), .val (.int 1)] d14_13 rfl rfl ?_
  refine og_aloadN X2 15 d14_14 rfl rfl rfl ?_
  refine og_aloadN X2 16 d14_15 rfl rfl rfl ?_
  refine own_get X2 19 d14_16 (host := "") (Or.inl (ow hw 93 rfl)) Via.refl q5 rfl ?_
  intro T3 X4
  refine og_iloadN X4 20 d14_19 rfl rfl ?_
  refine og_iadd X4 21 d14_20 rfl ?_
  show OGo _ _ _ _ T3 (mkF m 21 #[.val (.ref a), .val (.ref u), .val (.int 1)] [(.int 10), (.ref a)])
  refine own_priv X4 24 (a := a) (argsL := [(.int 10)]) (rest := []) d14_21 q2 (rs_ens l Z a0 hw n0 h0 hWd [] X4.old a d kd [e0, e1, e2, e3, e4, e5, e6, e7, e8, e9, e10, e11, e12, e13, e14, e15] (10 : Int32) q3 q4 q6 (by decide) ) (ow hw 95 rfl) (ow hw 96 rfl) (own_selfsel (ow hw 96 rfl) (ow hw 98 rfl) (ow hw 97 rfl) (by decide)) (ow hw 97 rfl) (ow hw 64 rfl) (ow hw 99 rfl) (by decide) (lenOf pd__28I_29V rfl) rfl rfl rfl (W := 0) rfl (by decide) (by decide) (by decide) (by decide) all0 rfl ?_
  intro T5 h5 v5 X5 K5 hQ5
  obtain rfl := hQ5
  show OGo _ _ _ _ T5 (mkF m 24 #[.val (.ref a), .val (.ref u), .val (.int 1)] [])
  refine og_aloadN X5 25 d14_24 rfl rfl rfl ?_
  refine og_aloadN X5 26 d14_25 rfl rfl rfl ?_
  have f6 := q5.keep K5 nin0
  refine own_get X5 29 d14_26 (host := "") (Or.inl (ow hw 93 rfl)) Via.refl f6 rfl ?_
  intro T7 X8
  refine og_aloadN X8 30 d14_29 rfl rfl rfl ?_
  have f9 := q2.keep K5
  have f10 := q0.keep K5 all0
  have f11 := q3.keep K5 nin0
  have f12 := q4.keep K5 nin0
  have f13 := q6.keep K5 nin0
  refine own_priv X8 33 (a := a) (argsL := [(.int 9), (.ref u)]) (rest := []) d14_30 f9 (rs_ps1_9 l Z a0 hw n0 h5 hWd [] X8.old a u d kd x0 e0 e1 e2 e3 e4 e5 e6 e7 e8 e9 e10 e11 e12 e13 e14 e15 f10.top q1 f9 f11 f12 f13 (own_svb X8 (om 1 rfl))) (ow hw 100 rfl) (ow hw 101 rfl) (own_selfsel (ow hw 101 rfl) (ow hw 103 rfl) (ow hw 102 rfl) (by decide)) (ow hw 102 rfl) (ow hw 64 rfl) (ow hw 104 rfl) (by decide) (lenOf pd__28ILjava_2flang_2fString_3b_29V rfl) rfl rfl rfl (W := 0) rfl (by decide) (by decide) (by decide) (by decide) (allS (om 1 rfl) all0) rfl ?_
  intro T14 h14 v14 X14 K14 hQ14
  obtain ⟨rfl, f15⟩ := hQ14
  show OGo _ _ _ _ T14 (mkF m 33 #[.val (.ref a), .val (.ref u), .val (.int 1)] [])
  refine og_aloadN X14 34 d14_33 rfl rfl rfl ?_
  refine og_dup X14 35 d14_34 rfl rfl ?_
  have f16 := f6.keep K14 (ninS (own_neA (f9.keep K14) (ow hw 55 rfl) f15) nin0)
  refine own_get X14 38 d14_35 (host := "") (Or.inl (ow hw 93 rfl)) Via.refl f16 rfl ?_
  intro T17 X18
  refine og_iloadN X18 39 d14_38 rfl rfl ?_
  refine og_iadd X18 40 d14_39 rfl ?_
  show OGo _ _ _ _ T17 (mkF m 40 #[.val (.ref a), .val (.ref u), .val (.int 1)] [(.int 10), (.ref a)])
  have f19 := f9.keep K14
  have f20 := f11.keep K14 (ninS (own_neA f19 (ow hw 55 rfl) f15) nin0)
  have f21 := f12.keep K14 (ninS (own_neA f19 (ow hw 55 rfl) f15) nin0)
  refine own_put X18 43 d14_40 (host := "") (Or.inl (ow hw 93 rfl)) Via.refl f16 f19 (Or.inl (ow hw 94 rfl)) (ow hw 55 rfl) (ty := .int) (by decide) rfl rfl (om 0 rfl) rfl ?_
  intro T22 h22 X22 W22 K22 F22
  have f23 := Fld.other W22 f20 (Or.inr (slot_ne (Or.inl (ow hw 69 rfl)) (Or.inl (ow hw 94 rfl)) (by decide) (t := (.array .byte)) (t' := .int) (by decide) (by decide)))
  have f24 := Fld.other W22 f21 (Or.inr (slot_ne (Or.inl (ow hw 71 rfl)) (Or.inl (ow hw 94 rfl)) (by decide) (t := .byte) (t' := .int) (by decide) (by decide)))
  refine og_aloadN X22 44 d14_43 rfl rfl rfl ?_
  have f25 := f15.keep K22 (ninS (Ne.symm (own_neA f19 (ow hw 55 rfl) f15)) nin0)
  refine own_retA X22 d14_44 hret rfl rfl (by decide) (by decide) ?_
  exact ⟨rfl, f23, f24, F22, f25⟩
theorem rs_sa1_9 (l : Launch) (Z : State) (a0 : Array Value) (hw : ∀ d ∈ tables_1, d.before a0 Z = true) (n0 : Nat) (h0 : Heap) (hWd : OWorld Z a0) (wc : List Jvm.Cond) (O0 : Old Z n0 h0) (a : Addr) (u : Addr) (d : Addr) (kd : ClassId) (x0 : Int32) (e0 : Value) (e1 : Value) (e2 : Value) (e3 : Value) (e4 : Value) (e5 : Value) (e6 : Value) (e7 : Value) (e8 : Value) (e9 : Value) (e10 : Value) (e11 : Value) (e12 : Value) (e13 : Value) (e14 : Value) (e15 : Value) (q0 : OStr Z h0 u [x0] h0.size) (q1 : ∀ c ∈ [x0], ¬ c < 0 ∧ ¬ (255 : Int32) < c) (q2 : Exa Z h0 a "java/lang/StringBuilder") (q3 : Fld Z h0 a "java/lang/AbstractStringBuilder" "value" "[B" (.ref d)) (q4 : Fld Z h0 a "java/lang/AbstractStringBuilder" "coder" "B" (.int 0)) (q5 : Fld Z h0 a "java/lang/AbstractStringBuilder" "count" "I" (.int 9)) (q6 : Arv Z h0 d kd .byte (16 : Int32) [e0, e1, e2, e3, e4, e5, e6, e7, e8, e9, e10, e11, e12, e13, e14, e15] (.int 0)) (g0 : n0 ≤ a ∧ a < h0.size) (g1 : n0 ≤ d ∧ d < h0.size) :
    OMet l Z own_EL n0 (⟨"java/lang/StringBuilder", "append", "(Ljava/lang/String;)Ljava/lang/StringBuilder;"⟩ : MethodName) (Jvm.Cond.code (⟨"java/lang/StringBuilder", "append", "(Ljava/lang/String;)Ljava/lang/StringBuilder;"⟩ : MethodName) jdk_67_method_7_code 2 (some (.object "java/lang/StringBuilder")) :: wc) ({ frames := 4, cells := 0, slots := 0, locals := 83 } : Room) #[(.ref a), (.ref u)] h0 [a, d] (fun vq hq => vq = some (.ref a) ∧ Fld Z hq a "java/lang/AbstractStringBuilder" "value" "[B" (.ref d) ∧ Fld Z hq a "java/lang/AbstractStringBuilder" "coder" "B" (.int 0) ∧ Fld Z hq a "java/lang/AbstractStringBuilder" "count" "I" (.int 10) ∧ Arv Z hq d kd .byte (16 : Int32) [e0, e1, e2, e3, e4, e5, e6, e7, e8, (.int (StrChars.lo8 x0)), e10, e11, e12, e13, e14, e15] (.int 0)) := by
  refine own_enter #[.val (.ref a), .val (.ref u)] pn_java_lang_StringBuilder_append__Ljava_lang_String__Ljava_lang_StringBuilder_ (ef_rs_sa1_9 a u d kd x0 e0 e1 e2 e3 e4 e5 e6 e7 e8 e9 e10 e11 e12 e13 e14 e15) hWd.1 O0 (allS g0 (allS g1 all0)) ?_
  intro p e s m below meth c T0 X0 hnm hret
  refine og_aloadN X0 1 d13_0 rfl rfl rfl ?_
  refine og_aloadN X0 2 d13_1 rfl rfl rfl ?_
  refine own_super X0 5 (a := a) (argsL := [(.ref u)]) (rest := []) d13_2 (by decide) (Ins.self q2) (rs_aa1_9 l Z a0 hw n0 h0 hWd [] X0.old a u d kd x0 e0 e1 e2 e3 e4 e5 e6 e7 e8 e9 e10 e11 e12 e13 e14 e15 q0.top q1 q2 q3 q4 q5 q6 (own_svb X0 (om 0 rfl)) (own_svb X0 (om 1 rfl))) (ow hw 78 rfl) (own_samem (ow hw 98 rfl) rfl (ow hw 79 rfl) (by decide)) (ow hw 79 rfl) (ow hw 80 rfl) (ow hw 64 rfl) (ow hw 82 rfl) (by decide) (lenOf pd__28Ljava_2flang_2fString_3b_29Ljava_2flang_2fAbstractStringBuilder_3b rfl) rfl rfl rfl (W := 0) rfl (by decide) (by decide) (by decide) (by decide) (allS (om 0 rfl) (allS (om 1 rfl) all0)) rfl ?_
  intro T1 h1 v1 X1 K1 hQ1
  obtain ⟨rfl, f2, f3, f4, f5⟩ := hQ1
  show OGo _ _ _ _ T1 (mkF m 5 #[.val (.ref a), .val (.ref u)] [(.ref a)])
  refine og_pop X1 6 d13_5 rfl rfl ?_
  refine og_aloadN X1 7 d13_6 rfl rfl rfl ?_
  refine own_retA X1 d13_7 hret rfl rfl (by decide) (by decide) ?_
  exact ⟨rfl, f2, f3, f4, f5⟩
theorem rs_gb1_10 (l : Launch) (Z : State) (a0 : Array Value) (hw : ∀ d ∈ tables_1, d.before a0 Z = true) (n0 : Nat) (h0 : Heap) (hWd : OWorld Z a0) (wc : List Jvm.Cond) (O0 : Old Z n0 h0) (a : Addr) (d : Addr) (kd : ClassId) (x0 : Int32) (e0 : Value) (e1 : Value) (e2 : Value) (e3 : Value) (e4 : Value) (e5 : Value) (e6 : Value) (e7 : Value) (e8 : Value) (e9 : Value) (e10 : Value) (e11 : Value) (e12 : Value) (e13 : Value) (e14 : Value) (e15 : Value) (q0 : OStr Z h0 a [x0] h0.size) (q1 : ∀ c ∈ [x0], ¬ c < 0 ∧ ¬ (255 : Int32) < c) (q2 : Arv Z h0 d kd .byte (16 : Int32) [e0, e1, e2, e3, e4, e5, e6, e7, e8, e9, e10, e11, e12, e13, e14, e15] (.int 0)) (g0 : n0 ≤ d ∧ d < h0.size) :
    OMet l Z own_EL n0 (⟨"java/lang/String", "getBytes", "([BIB)V"⟩ : MethodName) (Jvm.Cond.code (⟨"java/lang/String", "getBytes", "([BIB)V"⟩ : MethodName) jdk_42_method_147_code 4 none :: wc) ({ frames := 1, cells := 0, slots := 0, locals := 40 } : Room) #[(.ref a), (.ref d), (.int 10), (.int 0)] h0 [d] (fun vq hq => vq = none ∧ Arv Z hq d kd .byte (16 : Int32) [e0, e1, e2, e3, e4, e5, e6, e7, e8, e9, (.int (StrChars.lo8 x0)), e11, e12, e13, e14, e15] (.int 0)) := by
  refine own_enter #[.val (.ref a), .val (.ref d), .val (.int 10), .val (.int 0)] pn_java_lang_String_getBytes___BIB_V (ef_rs_gb1_10 a d kd x0 e0 e1 e2 e3 e4 e5 e6 e7 e8 e9 e10 e11 e12 e13 e14 e15) hWd.1 O0 (allS g0 all0) ?_
  intro p e s m below meth c T0 X0 hnm hret
  refine og_aloadN X0 1 d20_0 rfl rfl rfl ?_
  refine own_virt X0 4 (a := a) (argsL := []) (rest := []) d20_1 q0.exa (fun _ hZ => notFace_of_selects (args := #[]) (mvT hZ (ow hw 91 rfl))) (rs_cod l Z a0 hw n0 h0 hWd [] X0.old a [x0] q0.top q1 ) (ow hw 88 rfl) (ow hw 89 rfl) (ow hw 91 rfl) (ow hw 90 rfl) (ow hw 8 rfl) (ow hw 92 rfl) (by decide) (lenOf pd__28_29B rfl) rfl rfl rfl (W := 0) rfl (by decide) (by decide) (by decide) (by decide) all0 rfl ?_
  intro T1 h1 v1 X1 K1 hQ1
  obtain rfl := hQ1
  show OGo _ _ _ _ T1 (mkF m 4 #[.val (.ref a), .val (.ref d), .val (.int 10), .val (.int 0)] [(.int 0)])
  refine og_iloadN X1 5 d20_4 rfl rfl ?_
  refine og_icmpN X1 8 d20_5 (XT.ii_ne_f (by decide)) rfl ?_
  obtain ⟨t, kt, NN, vv, eE, eC, eV, eA, cod, bd, l4⟩ := q0.latin (fun c hc => (q1 c hc).2)
  obtain ⟨-, rfl, rfl, -⟩ := cod.resolve_right fun q => absurd q.1 (by decide)
  have eA2 : Arv Z h0 t kt .byte (1 : Int32) [(.int (StrChars.lo8 x0))] (.int 0) := eA
  refine og_aloadN X1 9 d20_8 rfl rfl rfl ?_
  have f2 := eV.keep K1 nin0
  refine own_get X1 12 d20_9 (host := "") (Or.inl (ow hw 33 rfl)) Via.refl f2 rfl ?_
  intro T3 X4
  refine og_iconst X4 13 (0 : Int32) d20_12 rfl rfl ?_
  refine og_aloadN X4 14 d20_13 rfl rfl rfl ?_
  refine og_iloadN X4 15 d20_14 rfl rfl ?_
  refine og_iloadN X4 16 d20_15 rfl rfl ?_
  refine og_ishl X4 17 d20_16 rfl ?_
  show OGo _ _ _ _ T3 (mkF m 17 #[.val (.ref a), .val (.ref d), .val (.int 10), .val (.int 0)] [(.int 10), (.ref d), (.int 0), (.ref t)])
  refine og_aloadN X4 18 d20_17 rfl rfl rfl ?_
  refine own_get X4 21 d20_18 (host := "") (Or.inl (ow hw 33 rfl)) Via.refl f2 rfl ?_
  intro T5 X6
  have f7 := eA2.keep K1 nin0
  refine own_len X6 22 d20_21 f7 rfl ?_
  have f8 := q2.keep K1 nin0
  refine own_cp X6 25 (us := [(.int (StrChars.lo8 x0))]) (rest := []) d20_22 f7 f8 rfl (om 0 rfl) (ow hw 116 rfl) (ow hw 119 rfl) (ow hw 117 rfl) (ow hw 118 rfl) (by decide) (by decide) (by decide) (by decide) (by decide) rfl (Nat.le_of_ble_eq_true rfl) rfl (W := 0) rfl (by decide) (by decide) rfl ?_
  intro T9 h9 X9 K9 A9
  have f10 : Arv Z h9 d kd .byte (16 : Int32) [e0, e1, e2, e3, e4, e5, e6, e7, e8, e9, (.int (StrChars.lo8 x0)), e11, e12, e13, e14, e15] (.int 0) := A9
  show OGo _ _ _ _ T9 (mkF m 25 #[.val (.ref a), .val (.ref d), .val (.int 10), .val (.int 0)] [])
  refine og_goto X9 43 d20_25 (by decide) (by decide) ?_
  refine own_retV X9 d20_43 hret (by decide) (by decide) ?_
  exact ⟨rfl, f10⟩
theorem rs_ps1_10 (l : Launch) (Z : State) (a0 : Array Value) (hw : ∀ d ∈ tables_1, d.before a0 Z = true) (n0 : Nat) (h0 : Heap) (hWd : OWorld Z a0) (wc : List Jvm.Cond) (O0 : Old Z n0 h0) (a : Addr) (u : Addr) (d : Addr) (kd : ClassId) (x0 : Int32) (e0 : Value) (e1 : Value) (e2 : Value) (e3 : Value) (e4 : Value) (e5 : Value) (e6 : Value) (e7 : Value) (e8 : Value) (e9 : Value) (e10 : Value) (e11 : Value) (e12 : Value) (e13 : Value) (e14 : Value) (e15 : Value) (q0 : OStr Z h0 u [x0] h0.size) (q1 : ∀ c ∈ [x0], ¬ c < 0 ∧ ¬ (255 : Int32) < c) (q2 : Exa Z h0 a "java/lang/StringBuilder") (q3 : Fld Z h0 a "java/lang/AbstractStringBuilder" "value" "[B" (.ref d)) (q4 : Fld Z h0 a "java/lang/AbstractStringBuilder" "coder" "B" (.int 0)) (q5 : Arv Z h0 d kd .byte (16 : Int32) [e0, e1, e2, e3, e4, e5, e6, e7, e8, e9, e10, e11, e12, e13, e14, e15] (.int 0)) (g0 : n0 ≤ d ∧ d < h0.size) :
    OMet l Z own_EL n0 (⟨"java/lang/AbstractStringBuilder", "putStringAt", "(ILjava/lang/String;)V"⟩ : MethodName) (Jvm.Cond.code (⟨"java/lang/AbstractStringBuilder", "putStringAt", "(ILjava/lang/String;)V"⟩ : MethodName) jdk_68_method_73_code 3 none :: wc) ({ frames := 2, cells := 0, slots := 0, locals := 55 } : Room) #[(.ref a), (.int 10), (.ref u)] h0 [d] (fun vq hq => vq = none ∧ Arv Z hq d kd .byte (16 : Int32) [e0, e1, e2, e3, e4, e5, e6, e7, e8, e9, (.int (StrChars.lo8 x0)), e11, e12, e13, e14, e15] (.int 0)) := by
  refine own_enter #[.val (.ref a), .val (.int 10), .val (.ref u)] pn_java_lang_AbstractStringBuilder_putStringAt__ILjava_lang_String__V (ef_rs_ps1_10 a u d kd x0 e0 e1 e2 e3 e4 e5 e6 e7 e8 e9 e10 e11 e12 e13 e14 e15) hWd.1 O0 (allS g0 all0) ?_
  intro p e s m below meth c T0 X0 hnm hret
  refine og_aloadN X0 1 d18_0 rfl rfl rfl ?_
  refine og_aloadN X0 2 d18_1 rfl rfl rfl ?_
  refine own_priv X0 5 (a := a) (argsL := [(.ref u)]) (rest := []) d18_2 q2 (rs_inf l Z a0 hw n0 h0 hWd [] X0.old a u [x0] q4 q0.top q1 ) (ow hw 105 rfl) (ow hw 106 rfl) (own_selfsel (ow hw 106 rfl) (ow hw 108 rfl) (ow hw 107 rfl) (by decide)) (ow hw 107 rfl) (ow hw 64 rfl) (ow hw 109 rfl) (by decide) (lenOf pd__28Ljava_2flang_2fString_3b_29V rfl) rfl rfl rfl (W := 0) rfl (by decide) (by decide) (by decide) (by decide) all0 rfl ?_
  intro T1 h1 v1 X1 K1 hQ1
  obtain rfl := hQ1
  show OGo _ _ _ _ T1 (mkF m 5 #[.val (.ref a), .val (.int 10), .val (.ref u)] [])
  refine og_aloadN X1 6 d18_5 rfl rfl rfl ?_
  refine og_aloadN X1 7 d18_6 rfl rfl rfl ?_
  have f2 := q3.keep K1 nin0
  refine own_get X1 10 d18_7 (host := "") (Or.inl (ow hw 68 rfl)) Via.refl f2 rfl ?_
  intro T3 X4
  refine og_iloadN X4 11 d18_10 rfl rfl ?_
  refine og_aloadN X4 12 d18_11 rfl rfl rfl ?_
  have f5 := q4.keep K1 nin0
  refine own_get X4 15 d18_12 (host := "") (Or.inl (ow hw 70 rfl)) Via.refl f5 rfl ?_
  intro T6 X7
  have f8 := q0.exa.keep K1
  have f9 := q0.keep K1 all0
  have f10 := q5.keep K1 nin0
  refine own_virt X7 18 (a := u) (argsL := [(.ref d), (.int 10), (.int 0)]) (rest := []) d18_15 f8 (fun _ hZ => notFace_of_selects (args := #[]) (mvT hZ (ow hw 114 rfl))) (rs_gb1_10 l Z a0 hw n0 h1 hWd [] X7.old u d kd x0 e0 e1 e2 e3 e4 e5 e6 e7 e8 e9 e10 e11 e12 e13 e14 e15 f9.top q1 f10 (own_svb X7 (om 0 rfl))) (ow hw 111 rfl) (ow hw 112 rfl) (ow hw 114 rfl) (ow hw 113 rfl) (ow hw 8 rfl) (ow hw 115 rfl) (by decide) (lenOf pd__28_5bBIB_29V rfl) rfl rfl rfl (W := 0) rfl (by decide) (by decide) (by decide) (by decide) (allS (om 0 rfl) all0) rfl ?_
  intro T11 h11 v11 X11 K11 hQ11
  obtain ⟨rfl, f12⟩ := hQ11
  show OGo _ _ _ _ T11 (mkF m 18 #[.val (.ref a), .val (.int 10), .val (.ref u)] [])
  refine own_retV X11 d18_18 hret (by decide) (by decide) ?_
  exact ⟨rfl, f12⟩
theorem rs_aa1_10 (l : Launch) (Z : State) (a0 : Array Value) (hw : ∀ d ∈ tables_1, d.before a0 Z = true) (n0 : Nat) (h0 : Heap) (hWd : OWorld Z a0) (wc : List Jvm.Cond) (O0 : Old Z n0 h0) (a : Addr) (u : Addr) (d : Addr) (kd : ClassId) (x0 : Int32) (e0 : Value) (e1 : Value) (e2 : Value) (e3 : Value) (e4 : Value) (e5 : Value) (e6 : Value) (e7 : Value) (e8 : Value) (e9 : Value) (e10 : Value) (e11 : Value) (e12 : Value) (e13 : Value) (e14 : Value) (e15 : Value) (q0 : OStr Z h0 u [x0] h0.size) (q1 : ∀ c ∈ [x0], ¬ c < 0 ∧ ¬ (255 : Int32) < c) (q2 : Exa Z h0 a "java/lang/StringBuilder") (q3 : Fld Z h0 a "java/lang/AbstractStringBuilder" "value" "[B" (.ref d)) (q4 : Fld Z h0 a "java/lang/AbstractStringBuilder" "coder" "B" (.int 0)) (q5 : Fld Z h0 a "java/lang/AbstractStringBuilder" "count" "I" (.int 10)) (q6 : Arv Z h0 d kd .byte (16 : Int32) [e0, e1, e2, e3, e4, e5, e6, e7, e8, e9, e10, e11, e12, e13, e14, e15] (.int 0)) (g0 : n0 ≤ a ∧ a < h0.size) (g1 : n0 ≤ d ∧ d < h0.size) :
    OMet l Z own_EL n0 (⟨"java/lang/AbstractStringBuilder", "append", "(Ljava/lang/String;)Ljava/lang/AbstractStringBuilder;"⟩ : MethodName) (Jvm.Cond.code (⟨"java/lang/AbstractStringBuilder", "append", "(Ljava/lang/String;)Ljava/lang/AbstractStringBuilder;"⟩ : MethodName) jdk_68_method_22_code 3 (some (.object "java/lang/AbstractStringBuilder")) :: wc) ({ frames := 3, cells := 0, slots := 0, locals := 69 } : Room) #[(.ref a), (.ref u)] h0 [a, d] (fun vq hq => vq = some (.ref a) ∧ Fld Z hq a "java/lang/AbstractStringBuilder" "value" "[B" (.ref d) ∧ Fld Z hq a "java/lang/AbstractStringBuilder" "coder" "B" (.int 0) ∧ Fld Z hq a "java/lang/AbstractStringBuilder" "count" "I" (.int 11) ∧ Arv Z hq d kd .byte (16 : Int32) [e0, e1, e2, e3, e4, e5, e6, e7, e8, e9, (.int (StrChars.lo8 x0)), e11, e12, e13, e14, e15] (.int 0)) := by
  refine own_enter #[.val (.ref a), .val (.ref u), .unset] pn_java_lang_AbstractStringBuilder_append__Ljava_lang_String__Ljava_lang_AbstractStringBuilder_ (ef_rs_aa1_10 a u d kd x0 e0 e1 e2 e3 e4 e5 e6 e7 e8 e9 e10 e11 e12 e13 e14 e15) hWd.1 O0 (allS g0 (allS g1 all0)) ?_
  intro p e s m below meth c T0 X0 hnm hret
  refine og_aloadN X0 1 d14_0 rfl rfl rfl ?_
  refine og_nonnullY X0 9 d14_1 (by decide) (by decide) ?_
  refine og_aloadN X0 10 d14_9 rfl rfl rfl ?_
  refine own_strLen X0 13 d14_10 q0 (own_wL hw) (ow hw 7 rfl) hWd.2.1 hWd.2.2 (ow hw 83 rfl) (ow hw 84 rfl) (ow hw 86 rfl) (ow hw 85 rfl) rfl (W := 0) rfl (by decide) (by decide) (by decide) (by decide) rfl ?_
  intro T1 X2
  show OGo _ _ _ _ T1 (mkF m 13 #[.val (.ref a), .val (.ref u), .unset] [(.int 1)])
  refine og_istoreN X2 14 #[.val (.ref a), .val (.ref u), .val (.int 1)] d14_13 rfl rfl ?_
  refine og_aloadN X2 15 d14_14 rfl rfl rfl ?_
  refine og_aloadN X2 16 d14_15 rfl rfl rfl ?_
  refine own_get X2 19 d14_16 (host := "") (Or.inl (ow hw 93 rfl)) Via.refl q5 rfl ?_
  intro T3 X4
  refine og_iloadN X4 20 d14_19 rfl rfl ?_
  refine og_iadd X4 21 d14_20 rfl ?_
  show OGo _ _ _ _ T3 (mkF m 21 #[.val (.ref a), .val (.ref u), .val (.int 1)] [(.int 11), (.ref a)])
  refine own_priv X4 24 (a := a) (argsL := [(.int 11)]) (rest := []) d14_21 q2 (rs_ens l Z a0 hw n0 h0 hWd [] X4.old a d kd [e0, e1, e2, e3, e4, e5, e6, e7, e8, e9, e10, e11, e12, e13, e14, e15] (11 : Int32) q3 q4 q6 (by decide) ) (ow hw 95 rfl) (ow hw 96 rfl) (own_selfsel (ow hw 96 rfl) (ow hw 98 rfl) (ow hw 97 rfl) (by decide)) (ow hw 97 rfl) (ow hw 64 rfl) (ow hw 99 rfl) (by decide) (lenOf pd__28I_29V rfl) rfl rfl rfl (W := 0) rfl (by decide) (by decide) (by decide) (by decide) all0 rfl ?_
  intro T5 h5 v5 X5 K5 hQ5
  obtain rfl := hQ5
  show OGo _ _ _ _ T5 (mkF m 24 #[.val (.ref a), .val (.ref u), .val (.int 1)] [])
  refine og_aloadN X5 25 d14_24 rfl rfl rfl ?_
  refine og_aloadN X5 26 d14_25 rfl rfl rfl ?_
  have f6 := q5.keep K5 nin0
  refine own_get X5 29 d14_26 (host := "") (Or.inl (ow hw 93 rfl)) Via.refl f6 rfl ?_
  intro T7 X8
  refine og_aloadN X8 30 d14_29 rfl rfl rfl ?_
  have f9 := q2.keep K5
  have f10 := q0.keep K5 all0
  have f11 := q3.keep K5 nin0
  have f12 := q4.keep K5 nin0
  have f13 := q6.keep K5 nin0
  refine own_priv X8 33 (a := a) (argsL := [(.int 10), (.ref u)]) (rest := []) d14_30 f9 (rs_ps1_10 l Z a0 hw n0 h5 hWd [] X8.old a u d kd x0 e0 e1 e2 e3 e4 e5 e6 e7 e8 e9 e10 e11 e12 e13 e14 e15 f10.top q1 f9 f11 f12 f13 (own_svb X8 (om 1 rfl))) (ow hw 100 rfl) (ow hw 101 rfl) (own_selfsel (ow hw 101 rfl) (ow hw 103 rfl) (ow hw 102 rfl) (by decide)) (ow hw 102 rfl) (ow hw 64 rfl) (ow hw 104 rfl) (by decide) (lenOf pd__28ILjava_2flang_2fString_3b_29V rfl) rfl rfl rfl (W := 0) rfl (by decide) (by decide) (by decide) (by decide) (allS (om 1 rfl) all0) rfl ?_
  intro T14 h14 v14 X14 K14 hQ14
  obtain ⟨rfl, f15⟩ := hQ14
  show OGo _ _ _ _ T14 (mkF m 33 #[.val (.ref a), .val (.ref u), .val (.int 1)] [])
  refine og_aloadN X14 34 d14_33 rfl rfl rfl ?_
  refine og_dup X14 35 d14_34 rfl rfl ?_
  have f16 := f6.keep K14 (ninS (own_neA (f9.keep K14) (ow hw 55 rfl) f15) nin0)
  refine own_get X14 38 d14_35 (host := "") (Or.inl (ow hw 93 rfl)) Via.refl f16 rfl ?_
  intro T17 X18
  refine og_iloadN X18 39 d14_38 rfl rfl ?_
  refine og_iadd X18 40 d14_39 rfl ?_
  show OGo _ _ _ _ T17 (mkF m 40 #[.val (.ref a), .val (.ref u), .val (.int 1)] [(.int 11), (.ref a)])
  have f19 := f9.keep K14
  have f20 := f11.keep K14 (ninS (own_neA f19 (ow hw 55 rfl) f15) nin0)
  have f21 := f12.keep K14 (ninS (own_neA f19 (ow hw 55 rfl) f15) nin0)
  refine own_put X18 43 d14_40 (host := "") (Or.inl (ow hw 93 rfl)) Via.refl f16 f19 (Or.inl (ow hw 94 rfl)) (ow hw 55 rfl) (ty := .int) (by decide) rfl rfl (om 0 rfl) rfl ?_
  intro T22 h22 X22 W22 K22 F22
  have f23 := Fld.other W22 f20 (Or.inr (slot_ne (Or.inl (ow hw 69 rfl)) (Or.inl (ow hw 94 rfl)) (by decide) (t := (.array .byte)) (t' := .int) (by decide) (by decide)))
  have f24 := Fld.other W22 f21 (Or.inr (slot_ne (Or.inl (ow hw 71 rfl)) (Or.inl (ow hw 94 rfl)) (by decide) (t := .byte) (t' := .int) (by decide) (by decide)))
  refine og_aloadN X22 44 d14_43 rfl rfl rfl ?_
  have f25 := f15.keep K22 (ninS (Ne.symm (own_neA f19 (ow hw 55 rfl) f15)) nin0)
  refine own_retA X22 d14_44 hret rfl rfl (by decide) (by decide) ?_
  exact ⟨rfl, f23, f24, F22, f25⟩
theorem rs_sa1_10 (l : Launch) (Z : State) (a0 : Array Value) (hw : ∀ d ∈ tables_1, d.before a0 Z = true) (n0 : Nat) (h0 : Heap) (hWd : OWorld Z a0) (wc : List Jvm.Cond) (O0 : Old Z n0 h0) (a : Addr) (u : Addr) (d : Addr) (kd : ClassId) (x0 : Int32) (e0 : Value) (e1 : Value) (e2 : Value) (e3 : Value) (e4 : Value) (e5 : Value) (e6 : Value) (e7 : Value) (e8 : Value) (e9 : Value) (e10 : Value) (e11 : Value) (e12 : Value) (e13 : Value) (e14 : Value) (e15 : Value) (q0 : OStr Z h0 u [x0] h0.size) (q1 : ∀ c ∈ [x0], ¬ c < 0 ∧ ¬ (255 : Int32) < c) (q2 : Exa Z h0 a "java/lang/StringBuilder") (q3 : Fld Z h0 a "java/lang/AbstractStringBuilder" "value" "[B" (.ref d)) (q4 : Fld Z h0 a "java/lang/AbstractStringBuilder" "coder" "B" (.int 0)) (q5 : Fld Z h0 a "java/lang/AbstractStringBuilder" "count" "I" (.int 10)) (q6 : Arv Z h0 d kd .byte (16 : Int32) [e0, e1, e2, e3, e4, e5, e6, e7, e8, e9, e10, e11, e12, e13, e14, e15] (.int 0)) (g0 : n0 ≤ a ∧ a < h0.size) (g1 : n0 ≤ d ∧ d < h0.size) :
    OMet l Z own_EL n0 (⟨"java/lang/StringBuilder", "append", "(Ljava/lang/String;)Ljava/lang/StringBuilder;"⟩ : MethodName) (Jvm.Cond.code (⟨"java/lang/StringBuilder", "append", "(Ljava/lang/String;)Ljava/lang/StringBuilder;"⟩ : MethodName) jdk_67_method_7_code 2 (some (.object "java/lang/StringBuilder")) :: wc) ({ frames := 4, cells := 0, slots := 0, locals := 83 } : Room) #[(.ref a), (.ref u)] h0 [a, d] (fun vq hq => vq = some (.ref a) ∧ Fld Z hq a "java/lang/AbstractStringBuilder" "value" "[B" (.ref d) ∧ Fld Z hq a "java/lang/AbstractStringBuilder" "coder" "B" (.int 0) ∧ Fld Z hq a "java/lang/AbstractStringBuilder" "count" "I" (.int 11) ∧ Arv Z hq d kd .byte (16 : Int32) [e0, e1, e2, e3, e4, e5, e6, e7, e8, e9, (.int (StrChars.lo8 x0)), e11, e12, e13, e14, e15] (.int 0)) := by
  refine own_enter #[.val (.ref a), .val (.ref u)] pn_java_lang_StringBuilder_append__Ljava_lang_String__Ljava_lang_StringBuilder_ (ef_rs_sa1_10 a u d kd x0 e0 e1 e2 e3 e4 e5 e6 e7 e8 e9 e10 e11 e12 e13 e14 e15) hWd.1 O0 (allS g0 (allS g1 all0)) ?_
  intro p e s m below meth c T0 X0 hnm hret
  refine og_aloadN X0 1 d13_0 rfl rfl rfl ?_
  refine og_aloadN X0 2 d13_1 rfl rfl rfl ?_
  refine own_super X0 5 (a := a) (argsL := [(.ref u)]) (rest := []) d13_2 (by decide) (Ins.self q2) (rs_aa1_10 l Z a0 hw n0 h0 hWd [] X0.old a u d kd x0 e0 e1 e2 e3 e4 e5 e6 e7 e8 e9 e10 e11 e12 e13 e14 e15 q0.top q1 q2 q3 q4 q5 q6 (own_svb X0 (om 0 rfl)) (own_svb X0 (om 1 rfl))) (ow hw 78 rfl) (own_samem (ow hw 98 rfl) rfl (ow hw 79 rfl) (by decide)) (ow hw 79 rfl) (ow hw 80 rfl) (ow hw 64 rfl) (ow hw 82 rfl) (by decide) (lenOf pd__28Ljava_2flang_2fString_3b_29Ljava_2flang_2fAbstractStringBuilder_3b rfl) rfl rfl rfl (W := 0) rfl (by decide) (by decide) (by decide) (by decide) (allS (om 0 rfl) (allS (om 1 rfl) all0)) rfl ?_
  intro T1 h1 v1 X1 K1 hQ1
  obtain ⟨rfl, f2, f3, f4, f5⟩ := hQ1
  show OGo _ _ _ _ T1 (mkF m 5 #[.val (.ref a), .val (.ref u)] [(.ref a)])
  refine og_pop X1 6 d13_5 rfl rfl ?_
  refine og_aloadN X1 7 d13_6 rfl rfl rfl ?_
  refine own_retA X1 d13_7 hret rfl rfl (by decide) (by decide) ?_
  exact ⟨rfl, f2, f3, f4, f5⟩
theorem rs_gb1_11 (l : Launch) (Z : State) (a0 : Array Value) (hw : ∀ d ∈ tables_1, d.before a0 Z = true) (n0 : Nat) (h0 : Heap) (hWd : OWorld Z a0) (wc : List Jvm.Cond) (O0 : Old Z n0 h0) (a : Addr) (d : Addr) (kd : ClassId) (x0 : Int32) (e0 : Value) (e1 : Value) (e2 : Value) (e3 : Value) (e4 : Value) (e5 : Value) (e6 : Value) (e7 : Value) (e8 : Value) (e9 : Value) (e10 : Value) (e11 : Value) (e12 : Value) (e13 : Value) (e14 : Value) (e15 : Value) (q0 : OStr Z h0 a [x0] h0.size) (q1 : ∀ c ∈ [x0], ¬ c < 0 ∧ ¬ (255 : Int32) < c) (q2 : Arv Z h0 d kd .byte (16 : Int32) [e0, e1, e2, e3, e4, e5, e6, e7, e8, e9, e10, e11, e12, e13, e14, e15] (.int 0)) (g0 : n0 ≤ d ∧ d < h0.size) :
    OMet l Z own_EL n0 (⟨"java/lang/String", "getBytes", "([BIB)V"⟩ : MethodName) (Jvm.Cond.code (⟨"java/lang/String", "getBytes", "([BIB)V"⟩ : MethodName) jdk_42_method_147_code 4 none :: wc) ({ frames := 1, cells := 0, slots := 0, locals := 40 } : Room) #[(.ref a), (.ref d), (.int 11), (.int 0)] h0 [d] (fun vq hq => vq = none ∧ Arv Z hq d kd .byte (16 : Int32) [e0, e1, e2, e3, e4, e5, e6, e7, e8, e9, e10, (.int (StrChars.lo8 x0)), e12, e13, e14, e15] (.int 0)) := by
  refine own_enter #[.val (.ref a), .val (.ref d), .val (.int 11), .val (.int 0)] pn_java_lang_String_getBytes___BIB_V (ef_rs_gb1_11 a d kd x0 e0 e1 e2 e3 e4 e5 e6 e7 e8 e9 e10 e11 e12 e13 e14 e15) hWd.1 O0 (allS g0 all0) ?_
  intro p e s m below meth c T0 X0 hnm hret
  refine og_aloadN X0 1 d20_0 rfl rfl rfl ?_
  refine own_virt X0 4 (a := a) (argsL := []) (rest := []) d20_1 q0.exa (fun _ hZ => notFace_of_selects (args := #[]) (mvT hZ (ow hw 91 rfl))) (rs_cod l Z a0 hw n0 h0 hWd [] X0.old a [x0] q0.top q1 ) (ow hw 88 rfl) (ow hw 89 rfl) (ow hw 91 rfl) (ow hw 90 rfl) (ow hw 8 rfl) (ow hw 92 rfl) (by decide) (lenOf pd__28_29B rfl) rfl rfl rfl (W := 0) rfl (by decide) (by decide) (by decide) (by decide) all0 rfl ?_
  intro T1 h1 v1 X1 K1 hQ1
  obtain rfl := hQ1
  show OGo _ _ _ _ T1 (mkF m 4 #[.val (.ref a), .val (.ref d), .val (.int 11), .val (.int 0)] [(.int 0)])
  refine og_iloadN X1 5 d20_4 rfl rfl ?_
  refine og_icmpN X1 8 d20_5 (XT.ii_ne_f (by decide)) rfl ?_
  obtain ⟨t, kt, NN, vv, eE, eC, eV, eA, cod, bd, l4⟩ := q0.latin (fun c hc => (q1 c hc).2)
  obtain ⟨-, rfl, rfl, -⟩ := cod.resolve_right fun q => absurd q.1 (by decide)
  have eA2 : Arv Z h0 t kt .byte (1 : Int32) [(.int (StrChars.lo8 x0))] (.int 0) := eA
  refine og_aloadN X1 9 d20_8 rfl rfl rfl ?_
  have f2 := eV.keep K1 nin0
  refine own_get X1 12 d20_9 (host := "") (Or.inl (ow hw 33 rfl)) Via.refl f2 rfl ?_
  intro T3 X4
  refine og_iconst X4 13 (0 : Int32) d20_12 rfl rfl ?_
  refine og_aloadN X4 14 d20_13 rfl rfl rfl ?_
  refine og_iloadN X4 15 d20_14 rfl rfl ?_
  refine og_iloadN X4 16 d20_15 rfl rfl ?_
  refine og_ishl X4 17 d20_16 rfl ?_
  show OGo _ _ _ _ T3 (mkF m 17 #[.val (.ref a), .val (.ref d), .val (.int 11), .val (.int 0)] [(.int 11), (.ref d), (.int 0), (.ref t)])
  refine og_aloadN X4 18 d20_17 rfl rfl rfl ?_
  refine own_get X4 21 d20_18 (host := "") (Or.inl (ow hw 33 rfl)) Via.refl f2 rfl ?_
  intro T5 X6
  have f7 := eA2.keep K1 nin0
  refine own_len X6 22 d20_21 f7 rfl ?_
  have f8 := q2.keep K1 nin0
  refine own_cp X6 25 (us := [(.int (StrChars.lo8 x0))]) (rest := []) d20_22 f7 f8 rfl (om 0 rfl) (ow hw 116 rfl) (ow hw 119 rfl) (ow hw 117 rfl) (ow hw 118 rfl) (by decide) (by decide) (by decide) (by decide) (by decide) rfl (Nat.le_of_ble_eq_true rfl) rfl (W := 0) rfl (by decide) (by decide) rfl ?_
  intro T9 h9 X9 K9 A9
  have f10 : Arv Z h9 d kd .byte (16 : Int32) [e0, e1, e2, e3, e4, e5, e6, e7, e8, e9, e10, (.int (StrChars.lo8 x0)), e12, e13, e14, e15] (.int 0) := A9
  show OGo _ _ _ _ T9 (mkF m 25 #[.val (.ref a), .val (.ref d), .val (.int 11), .val (.int 0)] [])
  refine og_goto X9 43 d20_25 (by decide) (by decide) ?_
  refine own_retV X9 d20_43 hret (by decide) (by decide) ?_
  exact ⟨rfl, f10⟩
theorem rs_ps1_11 (l : Launch) (Z : State) (a0 : Array Value) (hw : ∀ d ∈ tables_1, d.before a0 Z = true) (n0 : Nat) (h0 : Heap) (hWd : OWorld Z a0) (wc : List Jvm.Cond) (O0 : Old Z n0 h0) (a : Addr) (u : Addr) (d : Addr) (kd : ClassId) (x0 : Int32) (e0 : Value) (e1 : Value) (e2 : Value) (e3 : Value) (e4 : Value) (e5 : Value) (e6 : Value) (e7 : Value) (e8 : Value) (e9 : Value) (e10 : Value) (e11 : Value) (e12 : Value) (e13 : Value) (e14 : Value) (e15 : Value) (q0 : OStr Z h0 u [x0] h0.size) (q1 : ∀ c ∈ [x0], ¬ c < 0 ∧ ¬ (255 : Int32) < c) (q2 : Exa Z h0 a "java/lang/StringBuilder") (q3 : Fld Z h0 a "java/lang/AbstractStringBuilder" "value" "[B" (.ref d)) (q4 : Fld Z h0 a "java/lang/AbstractStringBuilder" "coder" "B" (.int 0)) (q5 : Arv Z h0 d kd .byte (16 : Int32) [e0, e1, e2, e3, e4, e5, e6, e7, e8, e9, e10, e11, e12, e13, e14, e15] (.int 0)) (g0 : n0 ≤ d ∧ d < h0.size) :
    OMet l Z own_EL n0 (⟨"java/lang/AbstractStringBuilder", "putStringAt", "(ILjava/lang/String;)V"⟩ : MethodName) (Jvm.Cond.code (⟨"java/lang/AbstractStringBuilder", "putStringAt", "(ILjava/lang/String;)V"⟩ : MethodName) jdk_68_method_73_code 3 none :: wc) ({ frames := 2, cells := 0, slots := 0, locals := 55 } : Room) #[(.ref a), (.int 11), (.ref u)] h0 [d] (fun vq hq => vq = none ∧ Arv Z hq d kd .byte (16 : Int32) [e0, e1, e2, e3, e4, e5, e6, e7, e8, e9, e10, (.int (StrChars.lo8 x0)), e12, e13, e14, e15] (.int 0)) := by
  refine own_enter #[.val (.ref a), .val (.int 11), .val (.ref u)] pn_java_lang_AbstractStringBuilder_putStringAt__ILjava_lang_String__V (ef_rs_ps1_11 a u d kd x0 e0 e1 e2 e3 e4 e5 e6 e7 e8 e9 e10 e11 e12 e13 e14 e15) hWd.1 O0 (allS g0 all0) ?_
  intro p e s m below meth c T0 X0 hnm hret
  refine og_aloadN X0 1 d18_0 rfl rfl rfl ?_
  refine og_aloadN X0 2 d18_1 rfl rfl rfl ?_
  refine own_priv X0 5 (a := a) (argsL := [(.ref u)]) (rest := []) d18_2 q2 (rs_inf l Z a0 hw n0 h0 hWd [] X0.old a u [x0] q4 q0.top q1 ) (ow hw 105 rfl) (ow hw 106 rfl) (own_selfsel (ow hw 106 rfl) (ow hw 108 rfl) (ow hw 107 rfl) (by decide)) (ow hw 107 rfl) (ow hw 64 rfl) (ow hw 109 rfl) (by decide) (lenOf pd__28Ljava_2flang_2fString_3b_29V rfl) rfl rfl rfl (W := 0) rfl (by decide) (by decide) (by decide) (by decide) all0 rfl ?_
  intro T1 h1 v1 X1 K1 hQ1
  obtain rfl := hQ1
  show OGo _ _ _ _ T1 (mkF m 5 #[.val (.ref a), .val (.int 11), .val (.ref u)] [])
  refine og_aloadN X1 6 d18_5 rfl rfl rfl ?_
  refine og_aloadN X1 7 d18_6 rfl rfl rfl ?_
  have f2 := q3.keep K1 nin0
  refine own_get X1 10 d18_7 (host := "") (Or.inl (ow hw 68 rfl)) Via.refl f2 rfl ?_
  intro T3 X4
  refine og_iloadN X4 11 d18_10 rfl rfl ?_
  refine og_aloadN X4 12 d18_11 rfl rfl rfl ?_
  have f5 := q4.keep K1 nin0
  refine own_get X4 15 d18_12 (host := "") (Or.inl (ow hw 70 rfl)) Via.refl f5 rfl ?_
  intro T6 X7
  have f8 := q0.exa.keep K1
  have f9 := q0.keep K1 all0
  have f10 := q5.keep K1 nin0
  refine own_virt X7 18 (a := u) (argsL := [(.ref d), (.int 11), (.int 0)]) (rest := []) d18_15 f8 (fun _ hZ => notFace_of_selects (args := #[]) (mvT hZ (ow hw 114 rfl))) (rs_gb1_11 l Z a0 hw n0 h1 hWd [] X7.old u d kd x0 e0 e1 e2 e3 e4 e5 e6 e7 e8 e9 e10 e11 e12 e13 e14 e15 f9.top q1 f10 (own_svb X7 (om 0 rfl))) (ow hw 111 rfl) (ow hw 112 rfl) (ow hw 114 rfl) (ow hw 113 rfl) (ow hw 8 rfl) (ow hw 115 rfl) (by decide) (lenOf pd__28_5bBIB_29V rfl) rfl rfl rfl (W := 0) rfl (by decide) (by decide) (by decide) (by decide) (allS (om 0 rfl) all0) rfl ?_
  intro T11 h11 v11 X11 K11 hQ11
  obtain ⟨rfl, f12⟩ := hQ11
  show OGo _ _ _ _ T11 (mkF m 18 #[.val (.ref a), .val (.int 11), .val (.ref u)] [])
  refine own_retV X11 d18_18 hret (by decide) (by decide) ?_
  exact ⟨rfl, f12⟩
theorem rs_aa1_11 (l : Launch) (Z : State) (a0 : Array Value) (hw : ∀ d ∈ tables_1, d.before a0 Z = true) (n0 : Nat) (h0 : Heap) (hWd : OWorld Z a0) (wc : List Jvm.Cond) (O0 : Old Z n0 h0) (a : Addr) (u : Addr) (d : Addr) (kd : ClassId) (x0 : Int32) (e0 : Value) (e1 : Value) (e2 : Value) (e3 : Value) (e4 : Value) (e5 : Value) (e6 : Value) (e7 : Value) (e8 : Value) (e9 : Value) (e10 : Value) (e11 : Value) (e12 : Value) (e13 : Value) (e14 : Value) (e15 : Value) (q0 : OStr Z h0 u [x0] h0.size) (q1 : ∀ c ∈ [x0], ¬ c < 0 ∧ ¬ (255 : Int32) < c) (q2 : Exa Z h0 a "java/lang/StringBuilder") (q3 : Fld Z h0 a "java/lang/AbstractStringBuilder" "value" "[B" (.ref d)) (q4 : Fld Z h0 a "java/lang/AbstractStringBuilder" "coder" "B" (.int 0)) (q5 : Fld Z h0 a "java/lang/AbstractStringBuilder" "count" "I" (.int 11)) (q6 : Arv Z h0 d kd .byte (16 : Int32) [e0, e1, e2, e3, e4, e5, e6, e7, e8, e9, e10, e11, e12, e13, e14, e15] (.int 0)) (g0 : n0 ≤ a ∧ a < h0.size) (g1 : n0 ≤ d ∧ d < h0.size) :
    OMet l Z own_EL n0 (⟨"java/lang/AbstractStringBuilder", "append", "(Ljava/lang/String;)Ljava/lang/AbstractStringBuilder;"⟩ : MethodName) (Jvm.Cond.code (⟨"java/lang/AbstractStringBuilder", "append", "(Ljava/lang/String;)Ljava/lang/AbstractStringBuilder;"⟩ : MethodName) jdk_68_method_22_code 3 (some (.object "java/lang/AbstractStringBuilder")) :: wc) ({ frames := 3, cells := 0, slots := 0, locals := 69 } : Room) #[(.ref a), (.ref u)] h0 [a, d] (fun vq hq => vq = some (.ref a) ∧ Fld Z hq a "java/lang/AbstractStringBuilder" "value" "[B" (.ref d) ∧ Fld Z hq a "java/lang/AbstractStringBuilder" "coder" "B" (.int 0) ∧ Fld Z hq a "java/lang/AbstractStringBuilder" "count" "I" (.int 12) ∧ Arv Z hq d kd .byte (16 : Int32) [e0, e1, e2, e3, e4, e5, e6, e7, e8, e9, e10, (.int (StrChars.lo8 x0)), e12, e13, e14, e15] (.int 0)) := by
  refine own_enter #[.val (.ref a), .val (.ref u), .unset] pn_java_lang_AbstractStringBuilder_append__Ljava_lang_String__Ljava_lang_AbstractStringBuilder_ (ef_rs_aa1_11 a u d kd x0 e0 e1 e2 e3 e4 e5 e6 e7 e8 e9 e10 e11 e12 e13 e14 e15) hWd.1 O0 (allS g0 (allS g1 all0)) ?_
  intro p e s m below meth c T0 X0 hnm hret
  refine og_aloadN X0 1 d14_0 rfl rfl rfl ?_
  refine og_nonnullY X0 9 d14_1 (by decide) (by decide) ?_
  refine og_aloadN X0 10 d14_9 rfl rfl rfl ?_
  refine own_strLen X0 13 d14_10 q0 (own_wL hw) (ow hw 7 rfl) hWd.2.1 hWd.2.2 (ow hw 83 rfl) (ow hw 84 rfl) (ow hw 86 rfl) (ow hw 85 rfl) rfl (W := 0) rfl (by decide) (by decide) (by decide) (by decide) rfl ?_
  intro T1 X2
  show OGo _ _ _ _ T1 (mkF m 13 #[.val (.ref a), .val (.ref u), .unset] [(.int 1)])
  refine og_istoreN X2 14 #[.val (.ref a), .val (.ref u), .val (.int 1)] d14_13 rfl rfl ?_
  refine og_aloadN X2 15 d14_14 rfl rfl rfl ?_
  refine og_aloadN X2 16 d14_15 rfl rfl rfl ?_
  refine own_get X2 19 d14_16 (host := "") (Or.inl (ow hw 93 rfl)) Via.refl q5 rfl ?_
  intro T3 X4
  refine og_iloadN X4 20 d14_19 rfl rfl ?_
  refine og_iadd X4 21 d14_20 rfl ?_
  show OGo _ _ _ _ T3 (mkF m 21 #[.val (.ref a), .val (.ref u), .val (.int 1)] [(.int 12), (.ref a)])
  refine own_priv X4 24 (a := a) (argsL := [(.int 12)]) (rest := []) d14_21 q2 (rs_ens l Z a0 hw n0 h0 hWd [] X4.old a d kd [e0, e1, e2, e3, e4, e5, e6, e7, e8, e9, e10, e11, e12, e13, e14, e15] (12 : Int32) q3 q4 q6 (by decide) ) (ow hw 95 rfl) (ow hw 96 rfl) (own_selfsel (ow hw 96 rfl) (ow hw 98 rfl) (ow hw 97 rfl) (by decide)) (ow hw 97 rfl) (ow hw 64 rfl) (ow hw 99 rfl) (by decide) (lenOf pd__28I_29V rfl) rfl rfl rfl (W := 0) rfl (by decide) (by decide) (by decide) (by decide) all0 rfl ?_
  intro T5 h5 v5 X5 K5 hQ5
  obtain rfl := hQ5
  show OGo _ _ _ _ T5 (mkF m 24 #[.val (.ref a), .val (.ref u), .val (.int 1)] [])
  refine og_aloadN X5 25 d14_24 rfl rfl rfl ?_
  refine og_aloadN X5 26 d14_25 rfl rfl rfl ?_
  have f6 := q5.keep K5 nin0
  refine own_get X5 29 d14_26 (host := "") (Or.inl (ow hw 93 rfl)) Via.refl f6 rfl ?_
  intro T7 X8
  refine og_aloadN X8 30 d14_29 rfl rfl rfl ?_
  have f9 := q2.keep K5
  have f10 := q0.keep K5 all0
  have f11 := q3.keep K5 nin0
  have f12 := q4.keep K5 nin0
  have f13 := q6.keep K5 nin0
  refine own_priv X8 33 (a := a) (argsL := [(.int 11), (.ref u)]) (rest := []) d14_30 f9 (rs_ps1_11 l Z a0 hw n0 h5 hWd [] X8.old a u d kd x0 e0 e1 e2 e3 e4 e5 e6 e7 e8 e9 e10 e11 e12 e13 e14 e15 f10.top q1 f9 f11 f12 f13 (own_svb X8 (om 1 rfl))) (ow hw 100 rfl) (ow hw 101 rfl) (own_selfsel (ow hw 101 rfl) (ow hw 103 rfl) (ow hw 102 rfl) (by decide)) (ow hw 102 rfl) (ow hw 64 rfl) (ow hw 104 rfl) (by decide) (lenOf pd__28ILjava_2flang_2fString_3b_29V rfl) rfl rfl rfl (W := 0) rfl (by decide) (by decide) (by decide) (by decide) (allS (om 1 rfl) all0) rfl ?_
  intro T14 h14 v14 X14 K14 hQ14
  obtain ⟨rfl, f15⟩ := hQ14
  show OGo _ _ _ _ T14 (mkF m 33 #[.val (.ref a), .val (.ref u), .val (.int 1)] [])
  refine og_aloadN X14 34 d14_33 rfl rfl rfl ?_
  refine og_dup X14 35 d14_34 rfl rfl ?_
  have f16 := f6.keep K14 (ninS (own_neA (f9.keep K14) (ow hw 55 rfl) f15) nin0)
  refine own_get X14 38 d14_35 (host := "") (Or.inl (ow hw 93 rfl)) Via.refl f16 rfl ?_
  intro T17 X18
  refine og_iloadN X18 39 d14_38 rfl rfl ?_
  refine og_iadd X18 40 d14_39 rfl ?_
  show OGo _ _ _ _ T17 (mkF m 40 #[.val (.ref a), .val (.ref u), .val (.int 1)] [(.int 12), (.ref a)])
  have f19 := f9.keep K14
  have f20 := f11.keep K14 (ninS (own_neA f19 (ow hw 55 rfl) f15) nin0)
  have f21 := f12.keep K14 (ninS (own_neA f19 (ow hw 55 rfl) f15) nin0)
  refine own_put X18 43 d14_40 (host := "") (Or.inl (ow hw 93 rfl)) Via.refl f16 f19 (Or.inl (ow hw 94 rfl)) (ow hw 55 rfl) (ty := .int) (by decide) rfl rfl (om 0 rfl) rfl ?_
  intro T22 h22 X22 W22 K22 F22
  have f23 := Fld.other W22 f20 (Or.inr (slot_ne (Or.inl (ow hw 69 rfl)) (Or.inl (ow hw 94 rfl)) (by decide) (t := (.array .byte)) (t' := .int) (by decide) (by decide)))
  have f24 := Fld.other W22 f21 (Or.inr (slot_ne (Or.inl (ow hw 71 rfl)) (Or.inl (ow hw 94 rfl)) (by decide) (t := .byte) (t' := .int) (by decide) (by decide)))
  refine og_aloadN X22 44 d14_43 rfl rfl rfl ?_
  have f25 := f15.keep K22 (ninS (Ne.symm (own_neA f19 (ow hw 55 rfl) f15)) nin0)
  refine own_retA X22 d14_44 hret rfl rfl (by decide) (by decide) ?_
  exact ⟨rfl, f23, f24, F22, f25⟩
theorem rs_sa1_11 (l : Launch) (Z : State) (a0 : Array Value) (hw : ∀ d ∈ tables_1, d.before a0 Z = true) (n0 : Nat) (h0 : Heap) (hWd : OWorld Z a0) (wc : List Jvm.Cond) (O0 : Old Z n0 h0) (a : Addr) (u : Addr) (d : Addr) (kd : ClassId) (x0 : Int32) (e0 : Value) (e1 : Value) (e2 : Value) (e3 : Value) (e4 : Value) (e5 : Value) (e6 : Value) (e7 : Value) (e8 : Value) (e9 : Value) (e10 : Value) (e11 : Value) (e12 : Value) (e13 : Value) (e14 : Value) (e15 : Value) (q0 : OStr Z h0 u [x0] h0.size) (q1 : ∀ c ∈ [x0], ¬ c < 0 ∧ ¬ (255 : Int32) < c) (q2 : Exa Z h0 a "java/lang/StringBuilder") (q3 : Fld Z h0 a "java/lang/AbstractStringBuilder" "value" "[B" (.ref d)) (q4 : Fld Z h0 a "java/lang/AbstractStringBuilder" "coder" "B" (.int 0)) (q5 : Fld Z h0 a "java/lang/AbstractStringBuilder" "count" "I" (.int 11)) (q6 : Arv Z h0 d kd .byte (16 : Int32) [e0, e1, e2, e3, e4, e5, e6, e7, e8, e9, e10, e11, e12, e13, e14, e15] (.int 0)) (g0 : n0 ≤ a ∧ a < h0.size) (g1 : n0 ≤ d ∧ d < h0.size) :
    OMet l Z own_EL n0 (⟨"java/lang/StringBuilder", "append", "(Ljava/lang/String;)Ljava/lang/StringBuilder;"⟩ : MethodName) (Jvm.Cond.code (⟨"java/lang/StringBuilder", "append", "(Ljava/lang/String;)Ljava/lang/StringBuilder;"⟩ : MethodName) jdk_67_method_7_code 2 (some (.object "java/lang/StringBuilder")) :: wc) ({ frames := 4, cells := 0, slots := 0, locals := 83 } : Room) #[(.ref a), (.ref u)] h0 [a, d] (fun vq hq => vq = some (.ref a) ∧ Fld Z hq a "java/lang/AbstractStringBuilder" "value" "[B" (.ref d) ∧ Fld Z hq a "java/lang/AbstractStringBuilder" "coder" "B" (.int 0) ∧ Fld Z hq a "java/lang/AbstractStringBuilder" "count" "I" (.int 12) ∧ Arv Z hq d kd .byte (16 : Int32) [e0, e1, e2, e3, e4, e5, e6, e7, e8, e9, e10, (.int (StrChars.lo8 x0)), e12, e13, e14, e15] (.int 0)) := by
  refine own_enter #[.val (.ref a), .val (.ref u)] pn_java_lang_StringBuilder_append__Ljava_lang_String__Ljava_lang_StringBuilder_ (ef_rs_sa1_11 a u d kd x0 e0 e1 e2 e3 e4 e5 e6 e7 e8 e9 e10 e11 e12 e13 e14 e15) hWd.1 O0 (allS g0 (allS g1 all0)) ?_
  intro p e s m below meth c T0 X0 hnm hret
  refine og_aloadN X0 1 d13_0 rfl rfl rfl ?_
  refine og_aloadN X0 2 d13_1 rfl rfl rfl ?_
  refine own_super X0 5 (a := a) (argsL := [(.ref u)]) (rest := []) d13_2 (by decide) (Ins.self q2) (rs_aa1_11 l Z a0 hw n0 h0 hWd [] X0.old a u d kd x0 e0 e1 e2 e3 e4 e5 e6 e7 e8 e9 e10 e11 e12 e13 e14 e15 q0.top q1 q2 q3 q4 q5 q6 (own_svb X0 (om 0 rfl)) (own_svb X0 (om 1 rfl))) (ow hw 78 rfl) (own_samem (ow hw 98 rfl) rfl (ow hw 79 rfl) (by decide)) (ow hw 79 rfl) (ow hw 80 rfl) (ow hw 64 rfl) (ow hw 82 rfl) (by decide) (lenOf pd__28Ljava_2flang_2fString_3b_29Ljava_2flang_2fAbstractStringBuilder_3b rfl) rfl rfl rfl (W := 0) rfl (by decide) (by decide) (by decide) (by decide) (allS (om 0 rfl) (allS (om 1 rfl) all0)) rfl ?_
  intro T1 h1 v1 X1 K1 hQ1
  obtain ⟨rfl, f2, f3, f4, f5⟩ := hQ1
  show OGo _ _ _ _ T1 (mkF m 5 #[.val (.ref a), .val (.ref u)] [(.ref a)])
  refine og_pop X1 6 d13_5 rfl rfl ?_
  refine og_aloadN X1 7 d13_6 rfl rfl rfl ?_
  refine own_retA X1 d13_7 hret rfl rfl (by decide) (by decide) ?_
  exact ⟨rfl, f2, f3, f4, f5⟩
theorem rs_gb1_12 (l : Launch) (Z : State) (a0 : Array Value) (hw : ∀ d ∈ tables_1, d.before a0 Z = true) (n0 : Nat) (h0 : Heap) (hWd : OWorld Z a0) (wc : List Jvm.Cond) (O0 : Old Z n0 h0) (a : Addr) (d : Addr) (kd : ClassId) (x0 : Int32) (e0 : Value) (e1 : Value) (e2 : Value) (e3 : Value) (e4 : Value) (e5 : Value) (e6 : Value) (e7 : Value) (e8 : Value) (e9 : Value) (e10 : Value) (e11 : Value) (e12 : Value) (e13 : Value) (e14 : Value) (e15 : Value) (q0 : OStr Z h0 a [x0] h0.size) (q1 : ∀ c ∈ [x0], ¬ c < 0 ∧ ¬ (255 : Int32) < c) (q2 : Arv Z h0 d kd .byte (16 : Int32) [e0, e1, e2, e3, e4, e5, e6, e7, e8, e9, e10, e11, e12, e13, e14, e15] (.int 0)) (g0 : n0 ≤ d ∧ d < h0.size) :
    OMet l Z own_EL n0 (⟨"java/lang/String", "getBytes", "([BIB)V"⟩ : MethodName) (Jvm.Cond.code (⟨"java/lang/String", "getBytes", "([BIB)V"⟩ : MethodName) jdk_42_method_147_code 4 none :: wc) ({ frames := 1, cells := 0, slots := 0, locals := 40 } : Room) #[(.ref a), (.ref d), (.int 12), (.int 0)] h0 [d] (fun vq hq => vq = none ∧ Arv Z hq d kd .byte (16 : Int32) [e0, e1, e2, e3, e4, e5, e6, e7, e8, e9, e10, e11, (.int (StrChars.lo8 x0)), e13, e14, e15] (.int 0)) := by
  refine own_enter #[.val (.ref a), .val (.ref d), .val (.int 12), .val (.int 0)] pn_java_lang_String_getBytes___BIB_V (ef_rs_gb1_12 a d kd x0 e0 e1 e2 e3 e4 e5 e6 e7 e8 e9 e10 e11 e12 e13 e14 e15) hWd.1 O0 (allS g0 all0) ?_
  intro p e s m below meth c T0 X0 hnm hret
  refine og_aloadN X0 1 d20_0 rfl rfl rfl ?_
  refine own_virt X0 4 (a := a) (argsL := []) (rest := []) d20_1 q0.exa (fun _ hZ => notFace_of_selects (args := #[]) (mvT hZ (ow hw 91 rfl))) (rs_cod l Z a0 hw n0 h0 hWd [] X0.old a [x0] q0.top q1 ) (ow hw 88 rfl) (ow hw 89 rfl) (ow hw 91 rfl) (ow hw 90 rfl) (ow hw 8 rfl) (ow hw 92 rfl) (by decide) (lenOf pd__28_29B rfl) rfl rfl rfl (W := 0) rfl (by decide) (by decide) (by decide) (by decide) all0 rfl ?_
  intro T1 h1 v1 X1 K1 hQ1
  obtain rfl := hQ1
  show OGo _ _ _ _ T1 (mkF m 4 #[.val (.ref a), .val (.ref d), .val (.int 12), .val (.int 0)] [(.int 0)])
  refine og_iloadN X1 5 d20_4 rfl rfl ?_
  refine og_icmpN X1 8 d20_5 (XT.ii_ne_f (by decide)) rfl ?_
  obtain ⟨t, kt, NN, vv, eE, eC, eV, eA, cod, bd, l4⟩ := q0.latin (fun c hc => (q1 c hc).2)
  obtain ⟨-, rfl, rfl, -⟩ := cod.resolve_right fun q => absurd q.1 (by decide)
  have eA2 : Arv Z h0 t kt .byte (1 : Int32) [(.int (StrChars.lo8 x0))] (.int 0) := eA
  refine og_aloadN X1 9 d20_8 rfl rfl rfl ?_
  have f2 := eV.keep K1 nin0
  refine own_get X1 12 d20_9 (host := "") (Or.inl (ow hw 33 rfl)) Via.refl f2 rfl ?_
  intro T3 X4
  refine og_iconst X4 13 (0 : Int32) d20_12 rfl rfl ?_
  refine og_aloadN X4 14 d20_13 rfl rfl rfl ?_
  refine og_iloadN X4 15 d20_14 rfl rfl ?_
  refine og_iloadN X4 16 d20_15 rfl rfl ?_
  refine og_ishl X4 17 d20_16 rfl ?_
  show OGo _ _ _ _ T3 (mkF m 17 #[.val (.ref a), .val (.ref d), .val (.int 12), .val (.int 0)] [(.int 12), (.ref d), (.int 0), (.ref t)])
  refine og_aloadN X4 18 d20_17 rfl rfl rfl ?_
  refine own_get X4 21 d20_18 (host := "") (Or.inl (ow hw 33 rfl)) Via.refl f2 rfl ?_
  intro T5 X6
  have f7 := eA2.keep K1 nin0
  refine own_len X6 22 d20_21 f7 rfl ?_
  have f8 := q2.keep K1 nin0
  refine own_cp X6 25 (us := [(.int (StrChars.lo8 x0))]) (rest := []) d20_22 f7 f8 rfl (om 0 rfl) (ow hw 116 rfl) (ow hw 119 rfl) (ow hw 117 rfl) (ow hw 118 rfl) (by decide) (by decide) (by decide) (by decide) (by decide) rfl (Nat.le_of_ble_eq_true rfl) rfl (W := 0) rfl (by decide) (by decide) rfl ?_
  intro T9 h9 X9 K9 A9
  have f10 : Arv Z h9 d kd .byte (16 : Int32) [e0, e1, e2, e3, e4, e5, e6, e7, e8, e9, e10, e11, (.int (StrChars.lo8 x0)), e13, e14, e15] (.int 0) := A9
  show OGo _ _ _ _ T9 (mkF m 25 #[.val (.ref a), .val (.ref d), .val (.int 12), .val (.int 0)] [])
  refine og_goto X9 43 d20_25 (by decide) (by decide) ?_
  refine own_retV X9 d20_43 hret (by decide) (by decide) ?_
  exact ⟨rfl, f10⟩
theorem rs_ps1_12 (l : Launch) (Z : State) (a0 : Array Value) (hw : ∀ d ∈ tables_1, d.before a0 Z = true) (n0 : Nat) (h0 : Heap) (hWd : OWorld Z a0) (wc : List Jvm.Cond) (O0 : Old Z n0 h0) (a : Addr) (u : Addr) (d : Addr) (kd : ClassId) (x0 : Int32) (e0 : Value) (e1 : Value) (e2 : Value) (e3 : Value) (e4 : Value) (e5 : Value) (e6 : Value) (e7 : Value) (e8 : Value) (e9 : Value) (e10 : Value) (e11 : Value) (e12 : Value) (e13 : Value) (e14 : Value) (e15 : Value) (q0 : OStr Z h0 u [x0] h0.size) (q1 : ∀ c ∈ [x0], ¬ c < 0 ∧ ¬ (255 : Int32) < c) (q2 : Exa Z h0 a "java/lang/StringBuilder") (q3 : Fld Z h0 a "java/lang/AbstractStringBuilder" "value" "[B" (.ref d)) (q4 : Fld Z h0 a "java/lang/AbstractStringBuilder" "coder" "B" (.int 0)) (q5 : Arv Z h0 d kd .byte (16 : Int32) [e0, e1, e2, e3, e4, e5, e6, e7, e8, e9, e10, e11, e12, e13, e14, e15] (.int 0)) (g0 : n0 ≤ d ∧ d < h0.size) :
    OMet l Z own_EL n0 (⟨"java/lang/AbstractStringBuilder", "putStringAt", "(ILjava/lang/String;)V"⟩ : MethodName) (Jvm.Cond.code (⟨"java/lang/AbstractStringBuilder", "putStringAt", "(ILjava/lang/String;)V"⟩ : MethodName) jdk_68_method_73_code 3 none :: wc) ({ frames := 2, cells := 0, slots := 0, locals := 55 } : Room) #[(.ref a), (.int 12), (.ref u)] h0 [d] (fun vq hq => vq = none ∧ Arv Z hq d kd .byte (16 : Int32) [e0, e1, e2, e3, e4, e5, e6, e7, e8, e9, e10, e11, (.int (StrChars.lo8 x0)), e13, e14, e15] (.int 0)) := by
  refine own_enter #[.val (.ref a), .val (.int 12), .val (.ref u)] pn_java_lang_AbstractStringBuilder_putStringAt__ILjava_lang_String__V (ef_rs_ps1_12 a u d kd x0 e0 e1 e2 e3 e4 e5 e6 e7 e8 e9 e10 e11 e12 e13 e14 e15) hWd.1 O0 (allS g0 all0) ?_
  intro p e s m below meth c T0 X0 hnm hret
  refine og_aloadN X0 1 d18_0 rfl rfl rfl ?_
  refine og_aloadN X0 2 d18_1 rfl rfl rfl ?_
  refine own_priv X0 5 (a := a) (argsL := [(.ref u)]) (rest := []) d18_2 q2 (rs_inf l Z a0 hw n0 h0 hWd [] X0.old a u [x0] q4 q0.top q1 ) (ow hw 105 rfl) (ow hw 106 rfl) (own_selfsel (ow hw 106 rfl) (ow hw 108 rfl) (ow hw 107 rfl) (by decide)) (ow hw 107 rfl) (ow hw 64 rfl) (ow hw 109 rfl) (by decide) (lenOf pd__28Ljava_2flang_2fString_3b_29V rfl) rfl rfl rfl (W := 0) rfl (by decide) (by decide) (by decide) (by decide) all0 rfl ?_
  intro T1 h1 v1 X1 K1 hQ1
  obtain rfl := hQ1
  show OGo _ _ _ _ T1 (mkF m 5 #[.val (.ref a), .val (.int 12), .val (.ref u)] [])
  refine og_aloadN X1 6 d18_5 rfl rfl rfl ?_
  refine og_aloadN X1 7 d18_6 rfl rfl rfl ?_
  have f2 := q3.keep K1 nin0
  refine own_get X1 10 d18_7 (host := "") (Or.inl (ow hw 68 rfl)) Via.refl f2 rfl ?_
  intro T3 X4
  refine og_iloadN X4 11 d18_10 rfl rfl ?_
  refine og_aloadN X4 12 d18_11 rfl rfl rfl ?_
  have f5 := q4.keep K1 nin0
  refine own_get X4 15 d18_12 (host := "") (Or.inl (ow hw 70 rfl)) Via.refl f5 rfl ?_
  intro T6 X7
  have f8 := q0.exa.keep K1
  have f9 := q0.keep K1 all0
  have f10 := q5.keep K1 nin0
  refine own_virt X7 18 (a := u) (argsL := [(.ref d), (.int 12), (.int 0)]) (rest := []) d18_15 f8 (fun _ hZ => notFace_of_selects (args := #[]) (mvT hZ (ow hw 114 rfl))) (rs_gb1_12 l Z a0 hw n0 h1 hWd [] X7.old u d kd x0 e0 e1 e2 e3 e4 e5 e6 e7 e8 e9 e10 e11 e12 e13 e14 e15 f9.top q1 f10 (own_svb X7 (om 0 rfl))) (ow hw 111 rfl) (ow hw 112 rfl) (ow hw 114 rfl) (ow hw 113 rfl) (ow hw 8 rfl) (ow hw 115 rfl) (by decide) (lenOf pd__28_5bBIB_29V rfl) rfl rfl rfl (W := 0) rfl (by decide) (by decide) (by decide) (by decide) (allS (om 0 rfl) all0) rfl ?_
  intro T11 h11 v11 X11 K11 hQ11
  obtain ⟨rfl, f12⟩ := hQ11
  show OGo _ _ _ _ T11 (mkF m 18 #[.val (.ref a), .val (.int 12), .val (.ref u)] [])
  refine own_retV X11 d18_18 hret (by decide) (by decide) ?_
  exact ⟨rfl, f12⟩
theorem rs_aa1_12 (l : Launch) (Z : State) (a0 : Array Value) (hw : ∀ d ∈ tables_1, d.before a0 Z = true) (n0 : Nat) (h0 : Heap) (hWd : OWorld Z a0) (wc : List Jvm.Cond) (O0 : Old Z n0 h0) (a : Addr) (u : Addr) (d : Addr) (kd : ClassId) (x0 : Int32) (e0 : Value) (e1 : Value) (e2 : Value) (e3 : Value) (e4 : Value) (e5 : Value) (e6 : Value) (e7 : Value) (e8 : Value) (e9 : Value) (e10 : Value) (e11 : Value) (e12 : Value) (e13 : Value) (e14 : Value) (e15 : Value) (q0 : OStr Z h0 u [x0] h0.size) (q1 : ∀ c ∈ [x0], ¬ c < 0 ∧ ¬ (255 : Int32) < c) (q2 : Exa Z h0 a "java/lang/StringBuilder") (q3 : Fld Z h0 a "java/lang/AbstractStringBuilder" "value" "[B" (.ref d)) (q4 : Fld Z h0 a "java/lang/AbstractStringBuilder" "coder" "B" (.int 0)) (q5 : Fld Z h0 a "java/lang/AbstractStringBuilder" "count" "I" (.int 12)) (q6 : Arv Z h0 d kd .byte (16 : Int32) [e0, e1, e2, e3, e4, e5, e6, e7, e8, e9, e10, e11, e12, e13, e14, e15] (.int 0)) (g0 : n0 ≤ a ∧ a < h0.size) (g1 : n0 ≤ d ∧ d < h0.size) :
    OMet l Z own_EL n0 (⟨"java/lang/AbstractStringBuilder", "append", "(Ljava/lang/String;)Ljava/lang/AbstractStringBuilder;"⟩ : MethodName) (Jvm.Cond.code (⟨"java/lang/AbstractStringBuilder", "append", "(Ljava/lang/String;)Ljava/lang/AbstractStringBuilder;"⟩ : MethodName) jdk_68_method_22_code 3 (some (.object "java/lang/AbstractStringBuilder")) :: wc) ({ frames := 3, cells := 0, slots := 0, locals := 69 } : Room) #[(.ref a), (.ref u)] h0 [a, d] (fun vq hq => vq = some (.ref a) ∧ Fld Z hq a "java/lang/AbstractStringBuilder" "value" "[B" (.ref d) ∧ Fld Z hq a "java/lang/AbstractStringBuilder" "coder" "B" (.int 0) ∧ Fld Z hq a "java/lang/AbstractStringBuilder" "count" "I" (.int 13) ∧ Arv Z hq d kd .byte (16 : Int32) [e0, e1, e2, e3, e4, e5, e6, e7, e8, e9, e10, e11, (.int (StrChars.lo8 x0)), e13, e14, e15] (.int 0)) := by
  refine own_enter #[.val (.ref a), .val (.ref u), .unset] pn_java_lang_AbstractStringBuilder_append__Ljava_lang_String__Ljava_lang_AbstractStringBuilder_ (ef_rs_aa1_12 a u d kd x0 e0 e1 e2 e3 e4 e5 e6 e7 e8 e9 e10 e11 e12 e13 e14 e15) hWd.1 O0 (allS g0 (allS g1 all0)) ?_
  intro p e s m below meth c T0 X0 hnm hret
  refine og_aloadN X0 1 d14_0 rfl rfl rfl ?_
  refine og_nonnullY X0 9 d14_1 (by decide) (by decide) ?_
  refine og_aloadN X0 10 d14_9 rfl rfl rfl ?_
  refine own_strLen X0 13 d14_10 q0 (own_wL hw) (ow hw 7 rfl) hWd.2.1 hWd.2.2 (ow hw 83 rfl) (ow hw 84 rfl) (ow hw 86 rfl) (ow hw 85 rfl) rfl (W := 0) rfl (by decide) (by decide) (by decide) (by decide) rfl ?_
  intro T1 X2
  show OGo _ _ _ _ T1 (mkF m 13 #[.val (.ref a), .val (.ref u), .unset] [(.int 1)])
  refine og_istoreN X2 14 #[.val (.ref a), .val (.ref u), .val (.int 1)] d14_13 rfl rfl ?_
  refine og_aloadN X2 15 d14_14 rfl rfl rfl ?_
  refine og_aloadN X2 16 d14_15 rfl rfl rfl ?_
  refine own_get X2 19 d14_16 (host := "") (Or.inl (ow hw 93 rfl)) Via.refl q5 rfl ?_
  intro T3 X4
  refine og_iloadN X4 20 d14_19 rfl rfl ?_
  refine og_iadd X4 21 d14_20 rfl ?_
  show OGo _ _ _ _ T3 (mkF m 21 #[.val (.ref a), .val (.ref u), .val (.int 1)] [(.int 13), (.ref a)])
  refine own_priv X4 24 (a := a) (argsL := [(.int 13)]) (rest := []) d14_21 q2 (rs_ens l Z a0 hw n0 h0 hWd [] X4.old a d kd [e0, e1, e2, e3, e4, e5, e6, e7, e8, e9, e10, e11, e12, e13, e14, e15] (13 : Int32) q3 q4 q6 (by decide) ) (ow hw 95 rfl) (ow hw 96 rfl) (own_selfsel (ow hw 96 rfl) (ow hw 98 rfl) (ow hw 97 rfl) (by decide)) (ow hw 97 rfl) (ow hw 64 rfl) (ow hw 99 rfl) (by decide) (lenOf pd__28I_29V rfl) rfl rfl rfl (W := 0) rfl (by decide) (by decide) (by decide) (by decide) all0 rfl ?_
  intro T5 h5 v5 X5 K5 hQ5
  obtain rfl := hQ5
  show OGo _ _ _ _ T5 (mkF m 24 #[.val (.ref a), .val (.ref u), .val (.int 1)] [])
  refine og_aloadN X5 25 d14_24 rfl rfl rfl ?_
  refine og_aloadN X5 26 d14_25 rfl rfl rfl ?_
  have f6 := q5.keep K5 nin0
  refine own_get X5 29 d14_26 (host := "") (Or.inl (ow hw 93 rfl)) Via.refl f6 rfl ?_
  intro T7 X8
  refine og_aloadN X8 30 d14_29 rfl rfl rfl ?_
  have f9 := q2.keep K5
  have f10 := q0.keep K5 all0
  have f11 := q3.keep K5 nin0
  have f12 := q4.keep K5 nin0
  have f13 := q6.keep K5 nin0
  refine own_priv X8 33 (a := a) (argsL := [(.int 12), (.ref u)]) (rest := []) d14_30 f9 (rs_ps1_12 l Z a0 hw n0 h5 hWd [] X8.old a u d kd x0 e0 e1 e2 e3 e4 e5 e6 e7 e8 e9 e10 e11 e12 e13 e14 e15 f10.top q1 f9 f11 f12 f13 (own_svb X8 (om 1 rfl))) (ow hw 100 rfl) (ow hw 101 rfl) (own_selfsel (ow hw 101 rfl) (ow hw 103 rfl) (ow hw 102 rfl) (by decide)) (ow hw 102 rfl) (ow hw 64 rfl) (ow hw 104 rfl) (by decide) (lenOf pd__28ILjava_2flang_2fString_3b_29V rfl) rfl rfl rfl (W := 0) rfl (by decide) (by decide) (by decide) (by decide) (allS (om 1 rfl) all0) rfl ?_
  intro T14 h14 v14 X14 K14 hQ14
  obtain ⟨rfl, f15⟩ := hQ14
  show OGo _ _ _ _ T14 (mkF m 33 #[.val (.ref a), .val (.ref u), .val (.int 1)] [])
  refine og_aloadN X14 34 d14_33 rfl rfl rfl ?_
  refine og_dup X14 35 d14_34 rfl rfl ?_
  have f16 := f6.keep K14 (ninS (own_neA (f9.keep K14) (ow hw 55 rfl) f15) nin0)
  refine own_get X14 38 d14_35 (host := "") (Or.inl (ow hw 93 rfl)) Via.refl f16 rfl ?_
  intro T17 X18
  refine og_iloadN X18 39 d14_38 rfl rfl ?_
  refine og_iadd X18 40 d14_39 rfl ?_
  show OGo _ _ _ _ T17 (mkF m 40 #[.val (.ref a), .val (.ref u), .val (.int 1)] [(.int 13), (.ref a)])
  have f19 := f9.keep K14
  have f20 := f11.keep K14 (ninS (own_neA f19 (ow hw 55 rfl) f15) nin0)
  have f21 := f12.keep K14 (ninS (own_neA f19 (ow hw 55 rfl) f15) nin0)
  refine own_put X18 43 d14_40 (host := "") (Or.inl (ow hw 93 rfl)) Via.refl f16 f19 (Or.inl (ow hw 94 rfl)) (ow hw 55 rfl) (ty := .int) (by decide) rfl rfl (om 0 rfl) rfl ?_
  intro T22 h22 X22 W22 K22 F22
  have f23 := Fld.other W22 f20 (Or.inr (slot_ne (Or.inl (ow hw 69 rfl)) (Or.inl (ow hw 94 rfl)) (by decide) (t := (.array .byte)) (t' := .int) (by decide) (by decide)))
  have f24 := Fld.other W22 f21 (Or.inr (slot_ne (Or.inl (ow hw 71 rfl)) (Or.inl (ow hw 94 rfl)) (by decide) (t := .byte) (t' := .int) (by decide) (by decide)))
  refine og_aloadN X22 44 d14_43 rfl rfl rfl ?_
  have f25 := f15.keep K22 (ninS (Ne.symm (own_neA f19 (ow hw 55 rfl) f15)) nin0)
  refine own_retA X22 d14_44 hret rfl rfl (by decide) (by decide) ?_
  exact ⟨rfl, f23, f24, F22, f25⟩
theorem rs_sa1_12 (l : Launch) (Z : State) (a0 : Array Value) (hw : ∀ d ∈ tables_1, d.before a0 Z = true) (n0 : Nat) (h0 : Heap) (hWd : OWorld Z a0) (wc : List Jvm.Cond) (O0 : Old Z n0 h0) (a : Addr) (u : Addr) (d : Addr) (kd : ClassId) (x0 : Int32) (e0 : Value) (e1 : Value) (e2 : Value) (e3 : Value) (e4 : Value) (e5 : Value) (e6 : Value) (e7 : Value) (e8 : Value) (e9 : Value) (e10 : Value) (e11 : Value) (e12 : Value) (e13 : Value) (e14 : Value) (e15 : Value) (q0 : OStr Z h0 u [x0] h0.size) (q1 : ∀ c ∈ [x0], ¬ c < 0 ∧ ¬ (255 : Int32) < c) (q2 : Exa Z h0 a "java/lang/StringBuilder") (q3 : Fld Z h0 a "java/lang/AbstractStringBuilder" "value" "[B" (.ref d)) (q4 : Fld Z h0 a "java/lang/AbstractStringBuilder" "coder" "B" (.int 0)) (q5 : Fld Z h0 a "java/lang/AbstractStringBuilder" "count" "I" (.int 12)) (q6 : Arv Z h0 d kd .byte (16 : Int32) [e0, e1, e2, e3, e4, e5, e6, e7, e8, e9, e10, e11, e12, e13, e14, e15] (.int 0)) (g0 : n0 ≤ a ∧ a < h0.size) (g1 : n0 ≤ d ∧ d < h0.size) :
    OMet l Z own_EL n0 (⟨"java/lang/StringBuilder", "append", "(Ljava/lang/String;)Ljava/lang/StringBuilder;"⟩ : MethodName) (Jvm.Cond.code (⟨"java/lang/StringBuilder", "append", "(Ljava/lang/String;)Ljava/lang/StringBuilder;"⟩ : MethodName) jdk_67_method_7_code 2 (some (.object "java/lang/StringBuilder")) :: wc) ({ frames := 4, cells := 0, slots := 0, locals := 83 } : Room) #[(.ref a), (.ref u)] h0 [a, d] (fun vq hq => vq = some (.ref a) ∧ Fld Z hq a "java/lang/AbstractStringBuilder" "value" "[B" (.ref d) ∧ Fld Z hq a "java/lang/AbstractStringBuilder" "coder" "B" (.int 0) ∧ Fld Z hq a "java/lang/AbstractStringBuilder" "count" "I" (.int 13) ∧ Arv Z hq d kd .byte (16 : Int32) [e0, e1, e2, e3, e4, e5, e6, e7, e8, e9, e10, e11, (.int (StrChars.lo8 x0)), e13, e14, e15] (.int 0)) := by
  refine own_enter #[.val (.ref a), .val (.ref u)] pn_java_lang_StringBuilder_append__Ljava_lang_String__Ljava_lang_StringBuilder_ (ef_rs_sa1_12 a u d kd x0 e0 e1 e2 e3 e4 e5 e6 e7 e8 e9 e10 e11 e12 e13 e14 e15) hWd.1 O0 (allS g0 (allS g1 all0)) ?_
  intro p e s m below meth c T0 X0 hnm hret
  refine og_aloadN X0 1 d13_0 rfl rfl rfl ?_
  refine og_aloadN X0 2 d13_1 rfl rfl rfl ?_
  refine own_super X0 5 (a := a) (argsL := [(.ref u)]) (rest := []) d13_2 (by decide) (Ins.self q2) (rs_aa1_12 l Z a0 hw n0 h0 hWd [] X0.old a u d kd x0 e0 e1 e2 e3 e4 e5 e6 e7 e8 e9 e10 e11 e12 e13 e14 e15 q0.top q1 q2 q3 q4 q5 q6 (own_svb X0 (om 0 rfl)) (own_svb X0 (om 1 rfl))) (ow hw 78 rfl) (own_samem (ow hw 98 rfl) rfl (ow hw 79 rfl) (by decide)) (ow hw 79 rfl) (ow hw 80 rfl) (ow hw 64 rfl) (ow hw 82 rfl) (by decide) (lenOf pd__28Ljava_2flang_2fString_3b_29Ljava_2flang_2fAbstractStringBuilder_3b rfl) rfl rfl rfl (W := 0) rfl (by decide) (by decide) (by decide) (by decide) (allS (om 0 rfl) (allS (om 1 rfl) all0)) rfl ?_
  intro T1 h1 v1 X1 K1 hQ1
  obtain ⟨rfl, f2, f3, f4, f5⟩ := hQ1
  show OGo _ _ _ _ T1 (mkF m 5 #[.val (.ref a), .val (.ref u)] [(.ref a)])
  refine og_pop X1 6 d13_5 rfl rfl ?_
  refine og_aloadN X1 7 d13_6 rfl rfl rfl ?_
  refine own_retA X1 d13_7 hret rfl rfl (by decide) (by decide) ?_
  exact ⟨rfl, f2, f3, f4, f5⟩
theorem rs_gb2_9 (l : Launch) (Z : State) (a0 : Array Value) (hw : ∀ d ∈ tables_1, d.before a0 Z = true) (n0 : Nat) (h0 : Heap) (hWd : OWorld Z a0) (wc : List Jvm.Cond) (O0 : Old Z n0 h0) (a : Addr) (d : Addr) (kd : ClassId) (x0 : Int32) (x1 : Int32) (e0 : Value) (e1 : Value) (e2 : Value) (e3 : Value) (e4 : Value) (e5 : Value) (e6 : Value) (e7 : Value) (e8 : Value) (e9 : Value) (e10 : Value) (e11 : Value) (e12 : Value) (e13 : Value) (e14 : Value) (e15 : Value) (q0 : OStr Z h0 a [x0, x1] h0.size) (q1 : ∀ c ∈ [x0, x1], ¬ c < 0 ∧ ¬ (255 : Int32) < c) (q2 : Arv Z h0 d kd .byte (16 : Int32) [e0, e1, e2, e3, e4, e5, e6, e7, e8, e9, e10, e11, e12, e13, e14, e15] (.int 0)) (g0 : n0 ≤ d ∧ d < h0.size) :
    OMet l Z own_EL n0 (⟨"java/lang/String", "getBytes", "([BIB)V"⟩ : MethodName) (Jvm.Cond.code (⟨"java/lang/String", "getBytes", "([BIB)V"⟩ : MethodName) jdk_42_method_147_code 4 none :: wc) ({ frames := 1, cells := 0, slots := 0, locals := 40 } : Room) #[(.ref a), (.ref d), (.int 9), (.int 0)] h0 [d] (fun vq hq => vq = none ∧ Arv Z hq d kd .byte (16 : Int32) [e0, e1, e2, e3, e4, e5, e6, e7, e8, (.int (StrChars.lo8 x0)), (.int (StrChars.lo8 x1)), e11, e12, e13, e14, e15] (.int 0)) := by
  refine own_enter #[.val (.ref a), .val (.ref d), .val (.int 9), .val (.int 0)] pn_java_lang_String_getBytes___BIB_V (ef_rs_gb2_9 a d kd x0 x1 e0 e1 e2 e3 e4 e5 e6 e7 e8 e9 e10 e11 e12 e13 e14 e15) hWd.1 O0 (allS g0 all0) ?_
  intro p e s m below meth c T0 X0 hnm hret
  refine og_aloadN X0 1 d20_0 rfl rfl rfl ?_
  refine own_virt X0 4 (a := a) (argsL := []) (rest := []) d20_1 q0.exa (fun _ hZ => notFace_of_selects (args := #[]) (mvT hZ (ow hw 91 rfl))) (rs_cod l Z a0 hw n0 h0 hWd [] X0.old a [x0, x1] q0.top q1 ) (ow hw 88 rfl) (ow hw 89 rfl) (ow hw 91 rfl) (ow hw 90 rfl) (ow hw 8 rfl) (ow hw 92 rfl) (by decide) (lenOf pd__28_29B rfl) rfl rfl rfl (W := 0) rfl (by decide) (by decide) (by decide) (by decide) all0 rfl ?_
  intro T1 h1 v1 X1 K1 hQ1
  obtain rfl := hQ1
  show OGo _ _ _ _ T1 (mkF m 4 #[.val (.ref a), .val (.ref d), .val (.int 9), .val (.int 0)] [(.int 0)])
  refine og_iloadN X1 5 d20_4 rfl rfl ?_
  refine og_icmpN X1 8 d20_5 (XT.ii_ne_f (by decide)) rfl ?_
  obtain ⟨t, kt, NN, vv, eE, eC, eV, eA, cod, bd, l4⟩ := q0.latin (fun c hc => (q1 c hc).2)
  obtain ⟨-, rfl, rfl, -⟩ := cod.resolve_right fun q => absurd q.1 (by decide)
  have eA2 : Arv Z h0 t kt .byte (2 : Int32) [(.int (StrChars.lo8 x0)), (.int (StrChars.lo8 x1))] (.int 0) := eA
  refine og_aloadN X1 9 d20_8 rfl rfl rfl ?_
  have f2 := eV.keep K1 nin0
  refine own_get X1 12 d20_9 (host := "") (Or.inl (ow hw 33 rfl)) Via.refl f2 rfl ?_
  intro T3 X4
  refine og_iconst X4 13 (0 : Int32) d20_12 rfl rfl ?_
  refine og_aloadN X4 14 d20_13 rfl rfl rfl ?_
  refine og_iloadN X4 15 d20_14 rfl rfl ?_
  refine og_iloadN X4 16 d20_15 rfl rfl ?_
  refine og_ishl X4 17 d20_16 rfl ?_
  show OGo _ _ _ _ T3 (mkF m 17 #[.val (.ref a), .val (.ref d), .val (.int 9), .val (.int 0)] [(.int 9), (.ref d), (.int 0), (.ref t)])
  refine og_aloadN X4 18 d20_17 rfl rfl rfl ?_
  refine own_get X4 21 d20_18 (host := "") (Or.inl (ow hw 33 rfl)) Via.refl f2 rfl ?_
  intro T5 X6
  have f7 := eA2.keep K1 nin0
  refine own_len X6 22 d20_21 f7 rfl ?_
  have f8 := q2.keep K1 nin0
  refine own_cp X6 25 (us := [(.int (StrChars.lo8 x0)), (.int (StrChars.lo8 x1))]) (rest := []) d20_22 f7 f8 rfl (om 0 rfl) (ow hw 116 rfl) (ow hw 119 rfl) (ow hw 117 rfl) (ow hw 118 rfl) (by decide) (by decide) (by decide) (by decide) (by decide) rfl (Nat.le_of_ble_eq_true rfl) rfl (W := 0) rfl (by decide) (by decide) rfl ?_
  intro T9 h9 X9 K9 A9
  have f10 : Arv Z h9 d kd .byte (16 : Int32) [e0, e1, e2, e3, e4, e5, e6, e7, e8, (.int (StrChars.lo8 x0)), (.int (StrChars.lo8 x1)), e11, e12, e13, e14, e15] (.int 0) := A9
  show OGo _ _ _ _ T9 (mkF m 25 #[.val (.ref a), .val (.ref d), .val (.int 9), .val (.int 0)] [])
  refine og_goto X9 43 d20_25 (by decide) (by decide) ?_
  refine own_retV X9 d20_43 hret (by decide) (by decide) ?_
  exact ⟨rfl, f10⟩
theorem rs_ps2_9 (l : Launch) (Z : State) (a0 : Array Value) (hw : ∀ d ∈ tables_1, d.before a0 Z = true) (n0 : Nat) (h0 : Heap) (hWd : OWorld Z a0) (wc : List Jvm.Cond) (O0 : Old Z n0 h0) (a : Addr) (u : Addr) (d : Addr) (kd : ClassId) (x0 : Int32) (x1 : Int32) (e0 : Value) (e1 : Value) (e2 : Value) (e3 : Value) (e4 : Value) (e5 : Value) (e6 : Value) (e7 : Value) (e8 : Value) (e9 : Value) (e10 : Value) (e11 : Value) (e12 : Value) (e13 : Value) (e14 : Value) (e15 : Value) (q0 : OStr Z h0 u [x0, x1] h0.size) (q1 : ∀ c ∈ [x0, x1], ¬ c < 0 ∧ ¬ (255 : Int32) < c) (q2 : Exa Z h0 a "java/lang/StringBuilder") (q3 : Fld Z h0 a "java/lang/AbstractStringBuilder" "value" "[B" (.ref d)) (q4 : Fld Z h0 a "java/lang/AbstractStringBuilder" "coder" "B" (.int 0)) (q5 : Arv Z h0 d kd .byte (16 : Int32) [e0, e1, e2, e3, e4, e5, e6, e7, e8, e9, e10, e11, e12, e13, e14, e15] (.int 0)) (g0 : n0 ≤ d ∧ d < h0.size) :
    OMet l Z own_EL n0 (⟨"java/lang/AbstractStringBuilder", "putStringAt", "(ILjava/lang/String;)V"⟩ : MethodName) (Jvm.Cond.code (⟨"java/lang/AbstractStringBuilder", "putStringAt", "(ILjava/lang/String;)V"⟩ : MethodName) jdk_68_method_73_code 3 none :: wc) ({ frames := 2, cells := 0, slots := 0, locals := 55 } : Room) #[(.ref a), (.int 9), (.ref u)] h0 [d] (fun vq hq => vq = none ∧ Arv Z hq d kd .byte (16 : Int32) [e0, e1, e2, e3, e4, e5, e6, e7, e8, (.int (StrChars.lo8 x0)), (.int (StrChars.lo8 x1)), e11, e12, e13, e14, e15] (.int 0)) := by
  refine own_enter #[.val (.ref a), .val (.int 9), .val (.ref u)] pn_java_lang_AbstractStringBuilder_putStringAt__ILjava_lang_String__V (ef_rs_ps2_9 a u d kd x0 x1 e0 e1 e2 e3 e4 e5 e6 e7 e8 e9 e10 e11 e12 e13 e14 e15) hWd.1 O0 (allS g0 all0) ?_
  intro p e s m below meth c T0 X0 hnm hret
  refine og_aloadN X0 1 d18_0 rfl rfl rfl ?_
  refine og_aloadN X0 2 d18_1 rfl rfl rfl ?_
  refine own_priv X0 5 (a := a) (argsL := [(.ref u)]) (rest := []) d18_2 q2 (rs_inf l Z a0 hw n0 h0 hWd [] X0.old a u [x0, x1] q4 q0.top q1 ) (ow hw 105 rfl) (ow hw 106 rfl) (own_selfsel (ow hw 106 rfl) (ow hw 108 rfl) (ow hw 107 rfl) (by decide)) (ow hw 107 rfl) (ow hw 64 rfl) (ow hw 109 rfl) (by decide) (lenOf pd__28Ljava_2flang_2fString_3b_29V rfl) rfl rfl rfl (W := 0) rfl (by decide) (by decide) (by decide) (by decide) all0 rfl ?_
  intro T1 h1 v1 X1 K1 hQ1
  obtain rfl := hQ1
  show OGo _ _ _ _ T1 (mkF m 5 #[.val (.ref a), .val (.int 9), .val (.ref u)] [])
  refine og_aloadN X1 6 d18_5 rfl rfl rfl ?_
  refine og_aloadN X1 7 d18_6 rfl rfl rfl ?_
  have f2 := q3.keep K1 nin0
  refine own_get X1 10 d18_7 (host := "") (Or.inl (ow hw 68 rfl)) Via.refl f2 rfl ?_
  intro T3 X4
  refine og_iloadN X4 11 d18_10 rfl rfl ?_
  refine og_aloadN X4 12 d18_11 rfl rfl rfl ?_
  have f5 := q4.keep K1 nin0
  refine own_get X4 15 d18_12 (host := "") (Or.inl (ow hw 70 rfl)) Via.refl f5 rfl ?_
  intro T6 X7
  have f8 := q0.exa.keep K1
  have f9 := q0.keep K1 all0
  have f10 := q5.keep K1 nin0
  refine own_virt X7 18 (a := u) (argsL := [(.ref d), (.int 9), (.int 0)]) (rest := []) d18_15 f8 (fun _ hZ => notFace_of_selects (args := #[]) (mvT hZ (ow hw 114 rfl))) (rs_gb2_9 l Z a0 hw n0 h1 hWd [] X7.old u d kd x0 x1 e0 e1 e2 e3 e4 e5 e6 e7 e8 e9 e10 e11 e12 e13 e14 e15 f9.top q1 f10 (own_svb X7 (om 0 rfl))) (ow hw 111 rfl) (ow hw 112 rfl) (ow hw 114 rfl) (ow hw 113 rfl) (ow hw 8 rfl) (ow hw 115 rfl) (by decide) (lenOf pd__28_5bBIB_29V rfl) rfl rfl rfl (W := 0) rfl (by decide) (by decide) (by decide) (by decide) (allS (om 0 rfl) all0) rfl ?_
  intro T11 h11 v11 X11 K11 hQ11
  obtain ⟨rfl, f12⟩ := hQ11
  show OGo _ _ _ _ T11 (mkF m 18 #[.val (.ref a), .val (.int 9), .val (.ref u)] [])
  refine own_retV X11 d18_18 hret (by decide) (by decide) ?_
  exact ⟨rfl, f12⟩
theorem rs_aa2_9 (l : Launch) (Z : State) (a0 : Array Value) (hw : ∀ d ∈ tables_1, d.before a0 Z = true) (n0 : Nat) (h0 : Heap) (hWd : OWorld Z a0) (wc : List Jvm.Cond) (O0 : Old Z n0 h0) (a : Addr) (u : Addr) (d : Addr) (kd : ClassId) (x0 : Int32) (x1 : Int32) (e0 : Value) (e1 : Value) (e2 : Value) (e3 : Value) (e4 : Value) (e5 : Value) (e6 : Value) (e7 : Value) (e8 : Value) (e9 : Value) (e10 : Value) (e11 : Value) (e12 : Value) (e13 : Value) (e14 : Value) (e15 : Value) (q0 : OStr Z h0 u [x0, x1] h0.size) (q1 : ∀ c ∈ [x0, x1], ¬ c < 0 ∧ ¬ (255 : Int32) < c) (q2 : Exa Z h0 a "java/lang/StringBuilder") (q3 : Fld Z h0 a "java/lang/AbstractStringBuilder" "value" "[B" (.ref d)) (q4 : Fld Z h0 a "java/lang/AbstractStringBuilder" "coder" "B" (.int 0)) (q5 : Fld Z h0 a "java/lang/AbstractStringBuilder" "count" "I" (.int 9)) (q6 : Arv Z h0 d kd .byte (16 : Int32) [e0, e1, e2, e3, e4, e5, e6, e7, e8, e9, e10, e11, e12, e13, e14, e15] (.int 0)) (g0 : n0 ≤ a ∧ a < h0.size) (g1 : n0 ≤ d ∧ d < h0.size) :
    OMet l Z own_EL n0 (⟨"java/lang/AbstractStringBuilder", "append", "(Ljava/lang/String;)Ljava/lang/AbstractStringBuilder;"⟩ : MethodName) (Jvm.Cond.code (⟨"java/lang/AbstractStringBuilder", "append", "(Ljava/lang/String;)Ljava/lang/AbstractStringBuilder;"⟩ : MethodName) jdk_68_method_22_code 3 (some (.object "java/lang/AbstractStringBuilder")) :: wc) ({ frames := 3, cells := 0, slots := 0, locals := 69 } : Room) #[(.ref a), (.ref u)] h0 [a, d] (fun vq hq => vq = some (.ref a) ∧ Fld Z hq a "java/lang/AbstractStringBuilder" "value" "[B" (.ref d) ∧ Fld Z hq a "java/lang/AbstractStringBuilder" "coder" "B" (.int 0) ∧ Fld Z hq a "java/lang/AbstractStringBuilder" "count" "I" (.int 11) ∧ Arv Z hq d kd .byte (16 : Int32) [e0, e1, e2, e3, e4, e5, e6, e7, e8, (.int (StrChars.lo8 x0)), (.int (StrChars.lo8 x1)), e11, e12, e13, e14, e15] (.int 0)) := by
  refine own_enter #[.val (.ref a), .val (.ref u), .unset] pn_java_lang_AbstractStringBuilder_append__Ljava_lang_String__Ljava_lang_AbstractStringBuilder_ (ef_rs_aa2_9 a u d kd x0 x1 e0 e1 e2 e3 e4 e5 e6 e7 e8 e9 e10 e11 e12 e13 e14 e15) hWd.1 O0 (allS g0 (allS g1 all0)) ?_
  intro p e s m below meth c T0 X0 hnm hret
  refine og_aloadN X0 1 d14_0 rfl rfl rfl ?_
  refine og_nonnullY X0 9 d14_1 (by decide) (by decide) ?_
  refine og_aloadN X0 10 d14_9 rfl rfl rfl ?_
  refine own_strLen X0 13 d14_10 q0 (own_wL hw) (ow hw 7 rfl) hWd.2.1 hWd.2.2 (ow hw 83 rfl) (ow hw 84 rfl) (ow hw 86 rfl) (ow hw 85 rfl) rfl (W := 0) rfl (by decide) (by decide) (by decide) (by decide) rfl ?_
  intro T1 X2
  show OGo _ _ _ _ T1 (mkF m 13 #[.val (.ref a), .val (.ref u), .unset] [(.int 2)])
  refine og_istoreN X2 14 #[.val (.ref a), .val (.ref u), .val (.int 2)] d14_13 rfl rfl ?_
  refine og_aloadN X2 15 d14_14 rfl rfl rfl ?_
  refine og_aloadN X2 16 d14_15 rfl rfl rfl ?_
  refine own_get X2 19 d14_16 (host := "") (Or.inl (ow hw 93 rfl)) Via.refl q5 rfl ?_
  intro T3 X4
  refine og_iloadN X4 20 d14_19 rfl rfl ?_
  refine og_iadd X4 21 d14_20 rfl ?_
  show OGo _ _ _ _ T3 (mkF m 21 #[.val (.ref a), .val (.ref u), .val (.int 2)] [(.int 11), (.ref a)])
  refine own_priv X4 24 (a := a) (argsL := [(.int 11)]) (rest := []) d14_21 q2 (rs_ens l Z a0 hw n0 h0 hWd [] X4.old a d kd [e0, e1, e2, e3, e4, e5, e6, e7, e8, e9, e10, e11, e12, e13, e14, e15] (11 : Int32) q3 q4 q6 (by decide) ) (ow hw 95 rfl) (ow hw 96 rfl) (own_selfsel (ow hw 96 rfl) (ow hw 98 rfl) (ow hw 97 rfl) (by decide)) (ow hw 97 rfl) (ow hw 64 rfl) (ow hw 99 rfl) (by decide) (lenOf pd__28I_29V rfl) rfl rfl rfl (W := 0) rfl (by decide) (by decide) (by decide) (by decide) all0 rfl ?_
  intro T5 h5 v5 X5 K5 hQ5
  obtain rfl := hQ5
  show OGo _ _ _ _ T5 (mkF m 24 #[.val (.ref a), .val (.ref u), .val (.int 2)] [])
  refine og_aloadN X5 25 d14_24 rfl rfl rfl ?_
  refine og_aloadN X5 26 d14_25 rfl rfl rfl ?_
  have f6 := q5.keep K5 nin0
  refine own_get X5 29 d14_26 (host := "") (Or.inl (ow hw 93 rfl)) Via.refl f6 rfl ?_
  intro T7 X8
  refine og_aloadN X8 30 d14_29 rfl rfl rfl ?_
  have f9 := q2.keep K5
  have f10 := q0.keep K5 all0
  have f11 := q3.keep K5 nin0
  have f12 := q4.keep K5 nin0
  have f13 := q6.keep K5 nin0
  refine own_priv X8 33 (a := a) (argsL := [(.int 9), (.ref u)]) (rest := []) d14_30 f9 (rs_ps2_9 l Z a0 hw n0 h5 hWd [] X8.old a u d kd x0 x1 e0 e1 e2 e3 e4 e5 e6 e7 e8 e9 e10 e11 e12 e13 e14 e15 f10.top q1 f9 f11 f12 f13 (own_svb X8 (om 1 rfl))) (ow hw 100 rfl) (ow hw 101 rfl) (own_selfsel (ow hw 101 rfl) (ow hw 103 rfl) (ow hw 102 rfl) (by decide)) (ow hw 102 rfl) (ow hw 64 rfl) (ow hw 104 rfl) (by decide) (lenOf pd__28ILjava_2flang_2fString_3b_29V rfl) rfl rfl rfl (W := 0) rfl (by decide) (by decide) (by decide) (by decide) (allS (om 1 rfl) all0) rfl ?_
  intro T14 h14 v14 X14 K14 hQ14
  obtain ⟨rfl, f15⟩ := hQ14
  show OGo _ _ _ _ T14 (mkF m 33 #[.val (.ref a), .val (.ref u), .val (.int 2)] [])
  refine og_aloadN X14 34 d14_33 rfl rfl rfl ?_
  refine og_dup X14 35 d14_34 rfl rfl ?_
  have f16 := f6.keep K14 (ninS (own_neA (f9.keep K14) (ow hw 55 rfl) f15) nin0)
  refine own_get X14 38 d14_35 (host := "") (Or.inl (ow hw 93 rfl)) Via.refl f16 rfl ?_
  intro T17 X18
  refine og_iloadN X18 39 d14_38 rfl rfl ?_
  refine og_iadd X18 40 d14_39 rfl ?_
  show OGo _ _ _ _ T17 (mkF m 40 #[.val (.ref a), .val (.ref u), .val (.int 2)] [(.int 11), (.ref a)])
  have f19 := f9.keep K14
  have f20 := f11.keep K14 (ninS (own_neA f19 (ow hw 55 rfl) f15) nin0)
  have f21 := f12.keep K14 (ninS (own_neA f19 (ow hw 55 rfl) f15) nin0)
  refine own_put X18 43 d14_40 (host := "") (Or.inl (ow hw 93 rfl)) Via.refl f16 f19 (Or.inl (ow hw 94 rfl)) (ow hw 55 rfl) (ty := .int) (by decide) rfl rfl (om 0 rfl) rfl ?_
  intro T22 h22 X22 W22 K22 F22
  have f23 := Fld.other W22 f20 (Or.inr (slot_ne (Or.inl (ow hw 69 rfl)) (Or.inl (ow hw 94 rfl)) (by decide) (t := (.array .byte)) (t' := .int) (by decide) (by decide)))
  have f24 := Fld.other W22 f21 (Or.inr (slot_ne (Or.inl (ow hw 71 rfl)) (Or.inl (ow hw 94 rfl)) (by decide) (t := .byte) (t' := .int) (by decide) (by decide)))
  refine og_aloadN X22 44 d14_43 rfl rfl rfl ?_
  have f25 := f15.keep K22 (ninS (Ne.symm (own_neA f19 (ow hw 55 rfl) f15)) nin0)
  refine own_retA X22 d14_44 hret rfl rfl (by decide) (by decide) ?_
  exact ⟨rfl, f23, f24, F22, f25⟩
theorem rs_sa2_9 (l : Launch) (Z : State) (a0 : Array Value) (hw : ∀ d ∈ tables_1, d.before a0 Z = true) (n0 : Nat) (h0 : Heap) (hWd : OWorld Z a0) (wc : List Jvm.Cond) (O0 : Old Z n0 h0) (a : Addr) (u : Addr) (d : Addr) (kd : ClassId) (x0 : Int32) (x1 : Int32) (e0 : Value) (e1 : Value) (e2 : Value) (e3 : Value) (e4 : Value) (e5 : Value) (e6 : Value) (e7 : Value) (e8 : Value) (e9 : Value) (e10 : Value) (e11 : Value) (e12 : Value) (e13 : Value) (e14 : Value) (e15 : Value) (q0 : OStr Z h0 u [x0, x1] h0.size) (q1 : ∀ c ∈ [x0, x1], ¬ c < 0 ∧ ¬ (255 : Int32) < c) (q2 : Exa Z h0 a "java/lang/StringBuilder") (q3 : Fld Z h0 a "java/lang/AbstractStringBuilder" "value" "[B" (.ref d)) (q4 : Fld Z h0 a "java/lang/AbstractStringBuilder" "coder" "B" (.int 0)) (q5 : Fld Z h0 a "java/lang/AbstractStringBuilder" "count" "I" (.int 9)) (q6 : Arv Z h0 d kd .byte (16 : Int32) [e0, e1, e2, e3, e4, e5, e6, e7, e8, e9, e10, e11, e12, e13, e14, e15] (.int 0)) (g0 : n0 ≤ a ∧ a < h0.size) (g1 : n0 ≤ d ∧ d < h0.size) :
    OMet l Z own_EL n0 (⟨"java/lang/StringBuilder", "append", "(Ljava/lang/String;)Ljava/lang/StringBuilder;"⟩ : MethodName) (Jvm.Cond.code (⟨"java/lang/StringBuilder", "append", "(Ljava/lang/String;)Ljava/lang/StringBuilder;"⟩ : MethodName) jdk_67_method_7_code 2 (some (.object "java/lang/StringBuilder")) :: wc) ({ frames := 4, cells := 0, slots := 0, locals := 83 } : Room) #[(.ref a), (.ref u)] h0 [a, d] (fun vq hq => vq = some (.ref a) ∧ Fld Z hq a "java/lang/AbstractStringBuilder" "value" "[B" (.ref d) ∧ Fld Z hq a "java/lang/AbstractStringBuilder" "coder" "B" (.int 0) ∧ Fld Z hq a "java/lang/AbstractStringBuilder" "count" "I" (.int 11) ∧ Arv Z hq d kd .byte (16 : Int32) [e0, e1, e2, e3, e4, e5, e6, e7, e8, (.int (StrChars.lo8 x0)), (.int (StrChars.lo8 x1)), e11, e12, e13, e14, e15] (.int 0)) := by
  refine own_enter #[.val (.ref a), .val (.ref u)] pn_java_lang_StringBuilder_append__Ljava_lang_String__Ljava_lang_StringBuilder_ (ef_rs_sa2_9 a u d kd x0 x1 e0 e1 e2 e3 e4 e5 e6 e7 e8 e9 e10 e11 e12 e13 e14 e15) hWd.1 O0 (allS g0 (allS g1 all0)) ?_
  intro p e s m below meth c T0 X0 hnm hret
  refine og_aloadN X0 1 d13_0 rfl rfl rfl ?_
  refine og_aloadN X0 2 d13_1 rfl rfl rfl ?_
  refine own_super X0 5 (a := a) (argsL := [(.ref u)]) (rest := []) d13_2 (by decide) (Ins.self q2) (rs_aa2_9 l Z a0 hw n0 h0 hWd [] X0.old a u d kd x0 x1 e0 e1 e2 e3 e4 e5 e6 e7 e8 e9 e10 e11 e12 e13 e14 e15 q0.top q1 q2 q3 q4 q5 q6 (own_svb X0 (om 0 rfl)) (own_svb X0 (om 1 rfl))) (ow hw 78 rfl) (own_samem (ow hw 98 rfl) rfl (ow hw 79 rfl) (by decide)) (ow hw 79 rfl) (ow hw 80 rfl) (ow hw 64 rfl) (ow hw 82 rfl) (by decide) (lenOf pd__28Ljava_2flang_2fString_3b_29Ljava_2flang_2fAbstractStringBuilder_3b rfl) rfl rfl rfl (W := 0) rfl (by decide) (by decide) (by decide) (by decide) (allS (om 0 rfl) (allS (om 1 rfl) all0)) rfl ?_
  intro T1 h1 v1 X1 K1 hQ1
  obtain ⟨rfl, f2, f3, f4, f5⟩ := hQ1
  show OGo _ _ _ _ T1 (mkF m 5 #[.val (.ref a), .val (.ref u)] [(.ref a)])
  refine og_pop X1 6 d13_5 rfl rfl ?_
  refine og_aloadN X1 7 d13_6 rfl rfl rfl ?_
  refine own_retA X1 d13_7 hret rfl rfl (by decide) (by decide) ?_
  exact ⟨rfl, f2, f3, f4, f5⟩
theorem rs_gb3_9 (l : Launch) (Z : State) (a0 : Array Value) (hw : ∀ d ∈ tables_1, d.before a0 Z = true) (n0 : Nat) (h0 : Heap) (hWd : OWorld Z a0) (wc : List Jvm.Cond) (O0 : Old Z n0 h0) (a : Addr) (d : Addr) (kd : ClassId) (x0 : Int32) (x1 : Int32) (x2 : Int32) (e0 : Value) (e1 : Value) (e2 : Value) (e3 : Value) (e4 : Value) (e5 : Value) (e6 : Value) (e7 : Value) (e8 : Value) (e9 : Value) (e10 : Value) (e11 : Value) (e12 : Value) (e13 : Value) (e14 : Value) (e15 : Value) (q0 : OStr Z h0 a [x0, x1, x2] h0.size) (q1 : ∀ c ∈ [x0, x1, x2], ¬ c < 0 ∧ ¬ (255 : Int32) < c) (q2 : Arv Z h0 d kd .byte (16 : Int32) [e0, e1, e2, e3, e4, e5, e6, e7, e8, e9, e10, e11, e12, e13, e14, e15] (.int 0)) (g0 : n0 ≤ d ∧ d < h0.size) :
    OMet l Z own_EL n0 (⟨"java/lang/String", "getBytes", "([BIB)V"⟩ : MethodName) (Jvm.Cond.code (⟨"java/lang/String", "getBytes", "([BIB)V"⟩ : MethodName) jdk_42_method_147_code 4 none :: wc) ({ frames := 1, cells := 0, slots := 0, locals := 40 } : Room) #[(.ref a), (.ref d), (.int 9), (.int 0)] h0 [d] (fun vq hq => vq = none ∧ Arv Z hq d kd .byte (16 : Int32) [e0, e1, e2, e3, e4, e5, e6, e7, e8, (.int (StrChars.lo8 x0)), (.int (StrChars.lo8 x1)), (.int (StrChars.lo8 x2)), e12, e13, e14, e15] (.int 0)) := by
  refine own_enter #[.val (.ref a), .val (.ref d), .val (.int 9), .val (.int 0)] pn_java_lang_String_getBytes___BIB_V (ef_rs_gb3_9 a d kd x0 x1 x2 e0 e1 e2 e3 e4 e5 e6 e7 e8 e9 e10 e11 e12 e13 e14 e15) hWd.1 O0 (allS g0 all0) ?_
  intro p e s m below meth c T0 X0 hnm hret
  refine og_aloadN X0 1 d20_0 rfl rfl rfl ?_
  refine own_virt X0 4 (a := a) (argsL := []) (rest := []) d20_1 q0.exa (fun _ hZ => notFace_of_selects (args := #[]) (mvT hZ (ow hw 91 rfl))) (rs_cod l Z a0 hw n0 h0 hWd [] X0.old a [x0, x1, x2] q0.top q1 ) (ow hw 88 rfl) (ow hw 89 rfl) (ow hw 91 rfl) (ow hw 90 rfl) (ow hw 8 rfl) (ow hw 92 rfl) (by decide) (lenOf pd__28_29B rfl) rfl rfl rfl (W := 0) rfl (by decide) (by decide) (by decide) (by decide) all0 rfl ?_
  intro T1 h1 v1 X1 K1 hQ1
  obtain rfl := hQ1
  show OGo _ _ _ _ T1 (mkF m 4 #[.val (.ref a), .val (.ref d), .val (.int 9), .val (.int 0)] [(.int 0)])
  refine og_iloadN X1 5 d20_4 rfl rfl ?_
  refine og_icmpN X1 8 d20_5 (XT.ii_ne_f (by decide)) rfl ?_
  obtain ⟨t, kt, NN, vv, eE, eC, eV, eA, cod, bd, l4⟩ := q0.latin (fun c hc => (q1 c hc).2)
  obtain ⟨-, rfl, rfl, -⟩ := cod.resolve_right fun q => absurd q.1 (by decide)
  have eA2 : Arv Z h0 t kt .byte (3 : Int32) [(.int (StrChars.lo8 x0)), (.int (StrChars.lo8 x1)), (.int (StrChars.lo8 x2))] (.int 0) := eA
  refine og_aloadN X1 9 d20_8 rfl rfl rfl ?_
  have f2 := eV.keep K1 nin0
  refine own_get X1 12 d20_9 (host := "") (Or.inl (ow hw 33 rfl)) Via.refl f2 rfl ?_
  intro T3 X4
  refine og_iconst X4 13 (0 : Int32) d20_12 rfl rfl ?_
  refine og_aloadN X4 14 d20_13 rfl rfl rfl ?_
  refine og_iloadN X4 15 d20_14 rfl rfl ?_
  refine og_iloadN X4 16 d20_15 rfl rfl ?_
  refine og_ishl X4 17 d20_16 rfl ?_
  show OGo _ _ _ _ T3 (mkF m 17 #[.val (.ref a), .val (.ref d), .val (.int 9), .val (.int 0)] [(.int 9), (.ref d), (.int 0), (.ref t)])
  refine og_aloadN X4 18 d20_17 rfl rfl rfl ?_
  refine own_get X4 21 d20_18 (host := "") (Or.inl (ow hw 33 rfl)) Via.refl f2 rfl ?_
  intro T5 X6
  have f7 := eA2.keep K1 nin0
  refine own_len X6 22 d20_21 f7 rfl ?_
  have f8 := q2.keep K1 nin0
  refine own_cp X6 25 (us := [(.int (StrChars.lo8 x0)), (.int (StrChars.lo8 x1)), (.int (StrChars.lo8 x2))]) (rest := []) d20_22 f7 f8 rfl (om 0 rfl) (ow hw 116 rfl) (ow hw 119 rfl) (ow hw 117 rfl) (ow hw 118 rfl) (by decide) (by decide) (by decide) (by decide) (by decide) rfl (Nat.le_of_ble_eq_true rfl) rfl (W := 0) rfl (by decide) (by decide) rfl ?_
  intro T9 h9 X9 K9 A9
  have f10 : Arv Z h9 d kd .byte (16 : Int32) [e0, e1, e2, e3, e4, e5, e6, e7, e8, (.int (StrChars.lo8 x0)), (.int (StrChars.lo8 x1)), (.int (StrChars.lo8 x2)), e12, e13, e14, e15] (.int 0) := A9
  show OGo _ _ _ _ T9 (mkF m 25 #[.val (.ref a), .val (.ref d), .val (.int 9), .val (.int 0)] [])
  refine og_goto X9 43 d20_25 (by decide) (by decide) ?_
  refine own_retV X9 d20_43 hret (by decide) (by decide) ?_
  exact ⟨rfl, f10⟩
theorem rs_ps3_9 (l : Launch) (Z : State) (a0 : Array Value) (hw : ∀ d ∈ tables_1, d.before a0 Z = true) (n0 : Nat) (h0 : Heap) (hWd : OWorld Z a0) (wc : List Jvm.Cond) (O0 : Old Z n0 h0) (a : Addr) (u : Addr) (d : Addr) (kd : ClassId) (x0 : Int32) (x1 : Int32) (x2 : Int32) (e0 : Value) (e1 : Value) (e2 : Value) (e3 : Value) (e4 : Value) (e5 : Value) (e6 : Value) (e7 : Value) (e8 : Value) (e9 : Value) (e10 : Value) (e11 : Value) (e12 : Value) (e13 : Value) (e14 : Value) (e15 : Value) (q0 : OStr Z h0 u [x0, x1, x2] h0.size) (q1 : ∀ c ∈ [x0, x1, x2], ¬ c < 0 ∧ ¬ (255 : Int32) < c) (q2 : Exa Z h0 a "java/lang/StringBuilder") (q3 : Fld Z h0 a "java/lang/AbstractStringBuilder" "value" "[B" (.ref d)) (q4 : Fld Z h0 a "java/lang/AbstractStringBuilder" "coder" "B" (.int 0)) (q5 : Arv Z h0 d kd .byte (16 : Int32) [e0, e1, e2, e3, e4, e5, e6, e7, e8, e9, e10, e11, e12, e13, e14, e15] (.int 0)) (g0 : n0 ≤ d ∧ d < h0.size) :
    OMet l Z own_EL n0 (⟨"java/lang/AbstractStringBuilder", "putStringAt", "(ILjava/lang/String;)V"⟩ : MethodName) (Jvm.Cond.code (⟨"java/lang/AbstractStringBuilder", "putStringAt", "(ILjava/lang/String;)V"⟩ : MethodName) jdk_68_method_73_code 3 none :: wc) ({ frames := 2, cells := 0, slots := 0, locals := 55 } : Room) #[(.ref a), (.int 9), (.ref u)] h0 [d] (fun vq hq => vq = none ∧ Arv Z hq d kd .byte (16 : Int32) [e0, e1, e2, e3, e4, e5, e6, e7, e8, (.int (StrChars.lo8 x0)), (.int (StrChars.lo8 x1)), (.int (StrChars.lo8 x2)), e12, e13, e14, e15] (.int 0)) := by
  refine own_enter #[.val (.ref a), .val (.int 9), .val (.ref u)] pn_java_lang_AbstractStringBuilder_putStringAt__ILjava_lang_String__V (ef_rs_ps3_9 a u d kd x0 x1 x2 e0 e1 e2 e3 e4 e5 e6 e7 e8 e9 e10 e11 e12 e13 e14 e15) hWd.1 O0 (allS g0 all0) ?_
  intro p e s m below meth c T0 X0 hnm hret
  refine og_aloadN X0 1 d18_0 rfl rfl rfl ?_
  refine og_aloadN X0 2 d18_1 rfl rfl rfl ?_
  refine own_priv X0 5 (a := a) (argsL := [(.ref u)]) (rest := []) d18_2 q2 (rs_inf l Z a0 hw n0 h0 hWd [] X0.old a u [x0, x1, x2] q4 q0.top q1 ) (ow hw 105 rfl) (ow hw 106 rfl) (own_selfsel (ow hw 106 rfl) (ow hw 108 rfl) (ow hw 107 rfl) (by decide)) (ow hw 107 rfl) (ow hw 64 rfl) (ow hw 109 rfl) (by decide) (lenOf pd__28Ljava_2flang_2fString_3b_29V rfl) rfl rfl rfl (W := 0) rfl (by decide) (by decide) (by decide) (by decide) all0 rfl ?_
  intro T1 h1 v1 X1 K1 hQ1
  obtain rfl := hQ1
  show OGo _ _ _ _ T1 (mkF m 5 #[.val (.ref a), .val (.int 9), .val (.ref u)] [])
  refine og_aloadN X1 6 d18_5 rfl rfl rfl ?_
  refine og_aloadN X1 7 d18_6 rfl rfl rfl ?_
  have f2 := q3.keep K1 nin0
  refine own_get X1 10 d18_7 (host := "") (Or.inl (ow hw 68 rfl)) Via.refl f2 rfl ?_
  intro T3 X4
  refine og_iloadN X4 11 d18_10 rfl rfl ?_
  refine og_aloadN X4 12 d18_11 rfl rfl rfl ?_
  have f5 := q4.keep K1 nin0
  refine own_get X4 15 d18_12 (host := "") (Or.inl (ow hw 70 rfl)) Via.refl f5 rfl ?_
  intro T6 X7
  have f8 := q0.exa.keep K1
  have f9 := q0.keep K1 all0
  have f10 := q5.keep K1 nin0
  refine own_virt X7 18 (a := u) (argsL := [(.ref d), (.int 9), (.int 0)]) (rest := []) d18_15 f8 (fun _ hZ => notFace_of_selects (args := #[]) (mvT hZ (ow hw 114 rfl))) (rs_gb3_9 l Z a0 hw n0 h1 hWd [] X7.old u d kd x0 x1 x2 e0 e1 e2 e3 e4 e5 e6 e7 e8 e9 e10 e11 e12 e13 e14 e15 f9.top q1 f10 (own_svb X7 (om 0 rfl))) (ow hw 111 rfl) (ow hw 112 rfl) (ow hw 114 rfl) (ow hw 113 rfl) (ow hw 8 rfl) (ow hw 115 rfl) (by decide) (lenOf pd__28_5bBIB_29V rfl) rfl rfl rfl (W := 0) rfl (by decide) (by decide) (by decide) (by decide) (allS (om 0 rfl) all0) rfl ?_
  intro T11 h11 v11 X11 K11 hQ11
  obtain ⟨rfl, f12⟩ := hQ11
  show OGo _ _ _ _ T11 (mkF m 18 #[.val (.ref a), .val (.int 9), .val (.ref u)] [])
  refine own_retV X11 d18_18 hret (by decide) (by decide) ?_
  exact ⟨rfl, f12⟩
theorem rs_aa3_9 (l : Launch) (Z : State) (a0 : Array Value) (hw : ∀ d ∈ tables_1, d.before a0 Z = true) (n0 : Nat) (h0 : Heap) (hWd : OWorld Z a0) (wc : List Jvm.Cond) (O0 : Old Z n0 h0) (a : Addr) (u : Addr) (d : Addr) (kd : ClassId) (x0 : Int32) (x1 : Int32) (x2 : Int32) (e0 : Value) (e1 : Value) (e2 : Value) (e3 : Value) (e4 : Value) (e5 : Value) (e6 : Value) (e7 : Value) (e8 : Value) (e9 : Value) (e10 : Value) (e11 : Value) (e12 : Value) (e13 : Value) (e14 : Value) (e15 : Value) (q0 : OStr Z h0 u [x0, x1, x2] h0.size) (q1 : ∀ c ∈ [x0, x1, x2], ¬ c < 0 ∧ ¬ (255 : Int32) < c) (q2 : Exa Z h0 a "java/lang/StringBuilder") (q3 : Fld Z h0 a "java/lang/AbstractStringBuilder" "value" "[B" (.ref d)) (q4 : Fld Z h0 a "java/lang/AbstractStringBuilder" "coder" "B" (.int 0)) (q5 : Fld Z h0 a "java/lang/AbstractStringBuilder" "count" "I" (.int 9)) (q6 : Arv Z h0 d kd .byte (16 : Int32) [e0, e1, e2, e3, e4, e5, e6, e7, e8, e9, e10, e11, e12, e13, e14, e15] (.int 0)) (g0 : n0 ≤ a ∧ a < h0.size) (g1 : n0 ≤ d ∧ d < h0.size) :
    OMet l Z own_EL n0 (⟨"java/lang/AbstractStringBuilder", "append", "(Ljava/lang/String;)Ljava/lang/AbstractStringBuilder;"⟩ : MethodName) (Jvm.Cond.code (⟨"java/lang/AbstractStringBuilder", "append", "(Ljava/lang/String;)Ljava/lang/AbstractStringBuilder;"⟩ : MethodName) jdk_68_method_22_code 3 (some (.object "java/lang/AbstractStringBuilder")) :: wc) ({ frames := 3, cells := 0, slots := 0, locals := 69 } : Room) #[(.ref a), (.ref u)] h0 [a, d] (fun vq hq => vq = some (.ref a) ∧ Fld Z hq a "java/lang/AbstractStringBuilder" "value" "[B" (.ref d) ∧ Fld Z hq a "java/lang/AbstractStringBuilder" "coder" "B" (.int 0) ∧ Fld Z hq a "java/lang/AbstractStringBuilder" "count" "I" (.int 12) ∧ Arv Z hq d kd .byte (16 : Int32) [e0, e1, e2, e3, e4, e5, e6, e7, e8, (.int (StrChars.lo8 x0)), (.int (StrChars.lo8 x1)), (.int (StrChars.lo8 x2)), e12, e13, e14, e15] (.int 0)) := by
  refine own_enter #[.val (.ref a), .val (.ref u), .unset] pn_java_lang_AbstractStringBuilder_append__Ljava_lang_String__Ljava_lang_AbstractStringBuilder_ (ef_rs_aa3_9 a u d kd x0 x1 x2 e0 e1 e2 e3 e4 e5 e6 e7 e8 e9 e10 e11 e12 e13 e14 e15) hWd.1 O0 (allS g0 (allS g1 all0)) ?_
  intro p e s m below meth c T0 X0 hnm hret
  refine og_aloadN X0 1 d14_0 rfl rfl rfl ?_
  refine og_nonnullY X0 9 d14_1 (by decide) (by decide) ?_
  refine og_aloadN X0 10 d14_9 rfl rfl rfl ?_
  refine own_strLen X0 13 d14_10 q0 (own_wL hw) (ow hw 7 rfl) hWd.2.1 hWd.2.2 (ow hw 83 rfl) (ow hw 84 rfl) (ow hw 86 rfl) (ow hw 85 rfl) rfl (W := 0) rfl (by decide) (by decide) (by decide) (by decide) rfl ?_
  intro T1 X2
  show OGo _ _ _ _ T1 (mkF m 13 #[.val (.ref a), .val (.ref u), .unset] [(.int 3)])
  refine og_istoreN X2 14 #[.val (.ref a), .val (.ref u), .val (.int 3)] d14_13 rfl rfl ?_
  refine og_aloadN X2 15 d14_14 rfl rfl rfl ?_
  refine og_aloadN X2 16 d14_15 rfl rfl rfl ?_
  refine own_get X2 19 d14_16 (host := "") (Or.inl (ow hw 93 rfl)) Via.refl q5 rfl ?_
  intro T3 X4
  refine og_iloadN X4 20 d14_19 rfl rfl ?_
  refine og_iadd X4 21 d14_20 rfl ?_
  show OGo _ _ _ _ T3 (mkF m 21 #[.val (.ref a), .val (.ref u), .val (.int 3)] [(.int 12), (.ref a)])
  refine own_priv X4 24 (a := a) (argsL := [(.int 12)]) (rest := []) d14_21 q2 (rs_ens l Z a0 hw n0 h0 hWd [] X4.old a d kd [e0, e1, e2, e3, e4, e5, e6, e7, e8, e9, e10, e11, e12, e13, e14, e15] (12 : Int32) q3 q4 q6 (by decide) ) (ow hw 95 rfl) (ow hw 96 rfl) (own_selfsel (ow hw 96 rfl) (ow hw 98 rfl) (ow hw 97 rfl) (by decide)) (ow hw 97 rfl) (ow hw 64 rfl) (ow hw 99 rfl) (by decide) (lenOf pd__28I_29V rfl) rfl rfl rfl (W := 0) rfl (by decide) (by decide) (by decide) (by decide) all0 rfl ?_
  intro T5 h5 v5 X5 K5 hQ5
  obtain rfl := hQ5
  show OGo _ _ _ _ T5 (mkF m 24 #[.val (.ref a), .val (.ref u), .val (.int 3)] [])
  refine og_aloadN X5 25 d14_24 rfl rfl rfl ?_
  refine og_aloadN X5 26 d14_25 rfl rfl rfl ?_
  have f6 := q5.keep K5 nin0
  refine own_get X5 29 d14_26 (host := "") (Or.inl (ow hw 93 rfl)) Via.refl f6 rfl ?_
  intro T7 X8
  refine og_aloadN X8 30 d14_29 rfl rfl rfl ?_
  have f9 := q2.keep K5
  have f10 := q0.keep K5 all0
  have f11 := q3.keep K5 nin0
  have f12 := q4.keep K5 nin0
  have f13 := q6.keep K5 nin0
  refine own_priv X8 33 (a := a) (argsL := [(.int 9), (.ref u)]) (rest := []) d14_30 f9 (rs_ps3_9 l Z a0 hw n0 h5 hWd [] X8.old a u d kd x0 x1 x2 e0 e1 e2 e3 e4 e5 e6 e7 e8 e9 e10 e11 e12 e13 e14 e15 f10.top q1 f9 f11 f12 f13 (own_svb X8 (om 1 rfl))) (ow hw 100 rfl) (ow hw 101 rfl) (own_selfsel (ow hw 101 rfl) (ow hw 103 rfl) (ow hw 102 rfl) (by decide)) (ow hw 102 rfl) (ow hw 64 rfl) (ow hw 104 rfl) (by decide) (lenOf pd__28ILjava_2flang_2fString_3b_29V rfl) rfl rfl rfl (W := 0) rfl (by decide) (by decide) (by decide) (by decide) (allS (om 1 rfl) all0) rfl ?_
  intro T14 h14 v14 X14 K14 hQ14
  obtain ⟨rfl, f15⟩ := hQ14
  show OGo _ _ _ _ T14 (mkF m 33 #[.val (.ref a), .val (.ref u), .val (.int 3)] [])
  refine og_aloadN X14 34 d14_33 rfl rfl rfl ?_
  refine og_dup X14 35 d14_34 rfl rfl ?_
  have f16 := f6.keep K14 (ninS (own_neA (f9.keep K14) (ow hw 55 rfl) f15) nin0)
  refine own_get X14 38 d14_35 (host := "") (Or.inl (ow hw 93 rfl)) Via.refl f16 rfl ?_
  intro T17 X18
  refine og_iloadN X18 39 d14_38 rfl rfl ?_
  refine og_iadd X18 40 d14_39 rfl ?_
  show OGo _ _ _ _ T17 (mkF m 40 #[.val (.ref a), .val (.ref u), .val (.int 3)] [(.int 12), (.ref a)])
  have f19 := f9.keep K14
  have f20 := f11.keep K14 (ninS (own_neA f19 (ow hw 55 rfl) f15) nin0)
  have f21 := f12.keep K14 (ninS (own_neA f19 (ow hw 55 rfl) f15) nin0)
  refine own_put X18 43 d14_40 (host := "") (Or.inl (ow hw 93 rfl)) Via.refl f16 f19 (Or.inl (ow hw 94 rfl)) (ow hw 55 rfl) (ty := .int) (by decide) rfl rfl (om 0 rfl) rfl ?_
  intro T22 h22 X22 W22 K22 F22
  have f23 := Fld.other W22 f20 (Or.inr (slot_ne (Or.inl (ow hw 69 rfl)) (Or.inl (ow hw 94 rfl)) (by decide) (t := (.array .byte)) (t' := .int) (by decide) (by decide)))
  have f24 := Fld.other W22 f21 (Or.inr (slot_ne (Or.inl (ow hw 71 rfl)) (Or.inl (ow hw 94 rfl)) (by decide) (t := .byte) (t' := .int) (by decide) (by decide)))
  refine og_aloadN X22 44 d14_43 rfl rfl rfl ?_
  have f25 := f15.keep K22 (ninS (Ne.symm (own_neA f19 (ow hw 55 rfl) f15)) nin0)
  refine own_retA X22 d14_44 hret rfl rfl (by decide) (by decide) ?_
  exact ⟨rfl, f23, f24, F22, f25⟩
theorem rs_sa3_9 (l : Launch) (Z : State) (a0 : Array Value) (hw : ∀ d ∈ tables_1, d.before a0 Z = true) (n0 : Nat) (h0 : Heap) (hWd : OWorld Z a0) (wc : List Jvm.Cond) (O0 : Old Z n0 h0) (a : Addr) (u : Addr) (d : Addr) (kd : ClassId) (x0 : Int32) (x1 : Int32) (x2 : Int32) (e0 : Value) (e1 : Value) (e2 : Value) (e3 : Value) (e4 : Value) (e5 : Value) (e6 : Value) (e7 : Value) (e8 : Value) (e9 : Value) (e10 : Value) (e11 : Value) (e12 : Value) (e13 : Value) (e14 : Value) (e15 : Value) (q0 : OStr Z h0 u [x0, x1, x2] h0.size) (q1 : ∀ c ∈ [x0, x1, x2], ¬ c < 0 ∧ ¬ (255 : Int32) < c) (q2 : Exa Z h0 a "java/lang/StringBuilder") (q3 : Fld Z h0 a "java/lang/AbstractStringBuilder" "value" "[B" (.ref d)) (q4 : Fld Z h0 a "java/lang/AbstractStringBuilder" "coder" "B" (.int 0)) (q5 : Fld Z h0 a "java/lang/AbstractStringBuilder" "count" "I" (.int 9)) (q6 : Arv Z h0 d kd .byte (16 : Int32) [e0, e1, e2, e3, e4, e5, e6, e7, e8, e9, e10, e11, e12, e13, e14, e15] (.int 0)) (g0 : n0 ≤ a ∧ a < h0.size) (g1 : n0 ≤ d ∧ d < h0.size) :
    OMet l Z own_EL n0 (⟨"java/lang/StringBuilder", "append", "(Ljava/lang/String;)Ljava/lang/StringBuilder;"⟩ : MethodName) (Jvm.Cond.code (⟨"java/lang/StringBuilder", "append", "(Ljava/lang/String;)Ljava/lang/StringBuilder;"⟩ : MethodName) jdk_67_method_7_code 2 (some (.object "java/lang/StringBuilder")) :: wc) ({ frames := 4, cells := 0, slots := 0, locals := 83 } : Room) #[(.ref a), (.ref u)] h0 [a, d] (fun vq hq => vq = some (.ref a) ∧ Fld Z hq a "java/lang/AbstractStringBuilder" "value" "[B" (.ref d) ∧ Fld Z hq a "java/lang/AbstractStringBuilder" "coder" "B" (.int 0) ∧ Fld Z hq a "java/lang/AbstractStringBuilder" "count" "I" (.int 12) ∧ Arv Z hq d kd .byte (16 : Int32) [e0, e1, e2, e3, e4, e5, e6, e7, e8, (.int (StrChars.lo8 x0)), (.int (StrChars.lo8 x1)), (.int (StrChars.lo8 x2)), e12, e13, e14, e15] (.int 0)) := by
  refine own_enter #[.val (.ref a), .val (.ref u)] pn_java_lang_StringBuilder_append__Ljava_lang_String__Ljava_lang_StringBuilder_ (ef_rs_sa3_9 a u d kd x0 x1 x2 e0 e1 e2 e3 e4 e5 e6 e7 e8 e9 e10 e11 e12 e13 e14 e15) hWd.1 O0 (allS g0 (allS g1 all0)) ?_
  intro p e s m below meth c T0 X0 hnm hret
  refine og_aloadN X0 1 d13_0 rfl rfl rfl ?_
  refine og_aloadN X0 2 d13_1 rfl rfl rfl ?_
  refine own_super X0 5 (a := a) (argsL := [(.ref u)]) (rest := []) d13_2 (by decide) (Ins.self q2) (rs_aa3_9 l Z a0 hw n0 h0 hWd [] X0.old a u d kd x0 x1 x2 e0 e1 e2 e3 e4 e5 e6 e7 e8 e9 e10 e11 e12 e13 e14 e15 q0.top q1 q2 q3 q4 q5 q6 (own_svb X0 (om 0 rfl)) (own_svb X0 (om 1 rfl))) (ow hw 78 rfl) (own_samem (ow hw 98 rfl) rfl (ow hw 79 rfl) (by decide)) (ow hw 79 rfl) (ow hw 80 rfl) (ow hw 64 rfl) (ow hw 82 rfl) (by decide) (lenOf pd__28Ljava_2flang_2fString_3b_29Ljava_2flang_2fAbstractStringBuilder_3b rfl) rfl rfl rfl (W := 0) rfl (by decide) (by decide) (by decide) (by decide) (allS (om 0 rfl) (allS (om 1 rfl) all0)) rfl ?_
  intro T1 h1 v1 X1 K1 hQ1
  obtain ⟨rfl, f2, f3, f4, f5⟩ := hQ1
  show OGo _ _ _ _ T1 (mkF m 5 #[.val (.ref a), .val (.ref u)] [(.ref a)])
  refine og_pop X1 6 d13_5 rfl rfl ?_
  refine og_aloadN X1 7 d13_6 rfl rfl rfl ?_
  refine own_retA X1 d13_7 hret rfl rfl (by decide) (by decide) ?_
  exact ⟨rfl, f2, f3, f4, f5⟩
theorem rs_gb9_0 (l : Launch) (Z : State) (a0 : Array Value) (hw : ∀ d ∈ tables_1, d.before a0 Z = true) (n0 : Nat) (h0 : Heap) (hWd : OWorld Z a0) (wc : List Jvm.Cond) (O0 : Old Z n0 h0) (a : Addr) (d : Addr) (kd : ClassId) (x0 : Int32) (x1 : Int32) (x2 : Int32) (x3 : Int32) (x4 : Int32) (x5 : Int32) (x6 : Int32) (x7 : Int32) (x8 : Int32) (e0 : Value) (e1 : Value) (e2 : Value) (e3 : Value) (e4 : Value) (e5 : Value) (e6 : Value) (e7 : Value) (e8 : Value) (e9 : Value) (e10 : Value) (e11 : Value) (e12 : Value) (e13 : Value) (e14 : Value) (e15 : Value) (q0 : OStr Z h0 a [x0, x1, x2, x3, x4, x5, x6, x7, x8] h0.size) (q1 : ∀ c ∈ [x0, x1, x2, x3, x4, x5, x6, x7, x8], ¬ c < 0 ∧ ¬ (255 : Int32) < c) (q2 : Arv Z h0 d kd .byte (16 : Int32) [e0, e1, e2, e3, e4, e5, e6, e7, e8, e9, e10, e11, e12, e13, e14, e15] (.int 0)) (g0 : n0 ≤ d ∧ d < h0.size) :
    OMet l Z own_EL n0 (⟨"java/lang/String", "getBytes", "([BIB)V"⟩ : MethodName) (Jvm.Cond.code (⟨"java/lang/String", "getBytes", "([BIB)V"⟩ : MethodName) jdk_42_method_147_code 4 none :: wc) ({ frames := 1, cells := 0, slots := 0, locals := 40 } : Room) #[(.ref a), (.ref d), (.int 0), (.int 0)] h0 [d] (fun vq hq => vq = none ∧ Arv Z hq d kd .byte (16 : Int32) [(.int (StrChars.lo8 x0)), (.int (StrChars.lo8 x1)), (.int (StrChars.lo8 x2)), (.int (StrChars.lo8 x3)), (.int (StrChars.lo8 x4)), (.int (StrChars.lo8 x5)), (.int (StrChars.lo8 x6)), (.int (StrChars.lo8 x7)), (.int (StrChars.lo8 x8)), e9, e10, e11, e12, e13, e14, e15] (.int 0)) := by
  refine own_enter #[.val (.ref a), .val (.ref d), .val (.int 0), .val (.int 0)] pn_java_lang_String_getBytes___BIB_V (ef_rs_gb9_0 a d kd x0 x1 x2 x3 x4 x5 x6 x7 x8 e0 e1 e2 e3 e4 e5 e6 e7 e8 e9 e10 e11 e12 e13 e14 e15) hWd.1 O0 (allS g0 all0) ?_
  intro p e s m below meth c T0 X0 hnm hret
  refine og_aloadN X0 1 d20_0 rfl rfl rfl ?_
  refine own_virt X0 4 (a := a) (argsL := []) (rest := []) d20_1 q0.exa (fun _ hZ => notFace_of_selects (args := #[]) (mvT hZ (ow hw 91 rfl))) (rs_cod l Z a0 hw n0 h0 hWd [] X0.old a [x0, x1, x2, x3, x4, x5, x6, x7, x8] q0.top q1 ) (ow hw 88 rfl) (ow hw 89 rfl) (ow hw 91 rfl) (ow hw 90 rfl) (ow hw 8 rfl) (ow hw 92 rfl) (by decide) (lenOf pd__28_29B rfl) rfl rfl rfl (W := 0) rfl (by decide) (by decide) (by decide) (by decide) all0 rfl ?_
  intro T1 h1 v1 X1 K1 hQ1
  obtain rfl := hQ1
  show OGo _ _ _ _ T1 (mkF m 4 #[.val (.ref a), .val (.ref d), .val (.int 0), .val (.int 0)] [(.int 0)])
  refine og_iloadN X1 5 d20_4 rfl rfl ?_
  refine og_icmpN X1 8 d20_5 (XT.ii_ne_f (by decide)) rfl ?_
  obtain ⟨t, kt, NN, vv, eE, eC, eV, eA, cod, bd, l4⟩ := q0.latin (fun c hc => (q1 c hc).2)
  obtain ⟨-, rfl, rfl, -⟩ := cod.resolve_right fun q => absurd q.1 (by decide)
  have eA2 : Arv Z h0 t kt .byte (9 : Int32) [(.int (StrChars.lo8 x0)), (.int (StrChars.lo8 x1)), (.int (StrChars.lo8 x2)), (.int (StrChars.lo8 x3)), (.int (StrChars.lo8 x4)), (.int (StrChars.lo8 x5)), (.int (StrChars.lo8 x6)), (.int (StrChars.lo8 x7)), (.int (StrChars.lo8 x8))] (.int 0) := eA
  refine og_aloadN X1 9 d20_8 rfl rfl rfl ?_
  have f2 := eV.keep K1 nin0
  refine own_get X1 12 d20_9 (host := "") (Or.inl (ow hw 33 rfl)) Via.refl f2 rfl ?_
  intro T3 X4
  refine og_iconst X4 13 (0 : Int32) d20_12 rfl rfl ?_
  refine og_aloadN X4 14 d20_13 rfl rfl rfl ?_
  refine og_iloadN X4 15 d20_14 rfl rfl ?_
  refine og_iloadN X4 16 d20_15 rfl rfl ?_
  refine og_ishl X4 17 d20_16 rfl ?_
  show OGo _ _ _ _ T3 (mkF m 17 #[.val (.ref a), .val (.ref d), .val (.int 0), .val (.int 0)] [(.int 0), (.ref d), (.int 0), (.ref t)])
  refine og_aloadN X4 18 d20_17 rfl rfl rfl ?_
  refine own_get X4 21 d20_18 (host := "") (Or.inl (ow hw 33 rfl)) Via.refl f2 rfl ?_
  intro T5 X6
  have f7 := eA2.keep K1 nin0
  refine own_len X6 22 d20_21 f7 rfl ?_
  have f8 := q2.keep K1 nin0
  refine own_cp X6 25 (us := [(.int (StrChars.lo8 x0)), (.int (StrChars.lo8 x1)), (.int (StrChars.lo8 x2)), (.int (StrChars.lo8 x3)), (.int (StrChars.lo8 x4)), (.int (StrChars.lo8 x5)), (.int (StrChars.lo8 x6)), (.int (StrChars.lo8 x7)), (.int (StrChars.lo8 x8))]) (rest := []) d20_22 f7 f8 rfl (om 0 rfl) (ow hw 116 rfl) (ow hw 119 rfl) (ow hw 117 rfl) (ow hw 118 rfl) (by decide) (by decide) (by decide) (by decide) (by decide) rfl (Nat.le_of_ble_eq_true rfl) rfl (W := 0) rfl (by decide) (by decide) rfl ?_
  intro T9 h9 X9 K9 A9
  have f10 : Arv Z h9 d kd .byte (16 : Int32) [(.int (StrChars.lo8 x0)), (.int (StrChars.lo8 x1)), (.int (StrChars.lo8 x2)), (.int (StrChars.lo8 x3)), (.int (StrChars.lo8 x4)), (.int (StrChars.lo8 x5)), (.int (StrChars.lo8 x6)), (.int (StrChars.lo8 x7)), (.int (StrChars.lo8 x8)), e9, e10, e11, e12, e13, e14, e15] (.int 0) := A9
  show OGo _ _ _ _ T9 (mkF m 25 #[.val (.ref a), .val (.ref d), .val (.int 0), .val (.int 0)] [])
  refine og_goto X9 43 d20_25 (by decide) (by decide) ?_
  refine own_retV X9 d20_43 hret (by decide) (by decide) ?_
  exact ⟨rfl, f10⟩
theorem rs_ps9_0 (l : Launch) (Z : State) (a0 : Array Value) (hw : ∀ d ∈ tables_1, d.before a0 Z = true) (n0 : Nat) (h0 : Heap) (hWd : OWorld Z a0) (wc : List Jvm.Cond) (O0 : Old Z n0 h0) (a : Addr) (u : Addr) (d : Addr) (kd : ClassId) (x0 : Int32) (x1 : Int32) (x2 : Int32) (x3 : Int32) (x4 : Int32) (x5 : Int32) (x6 : Int32) (x7 : Int32) (x8 : Int32) (e0 : Value) (e1 : Value) (e2 : Value) (e3 : Value) (e4 : Value) (e5 : Value) (e6 : Value) (e7 : Value) (e8 : Value) (e9 : Value) (e10 : Value) (e11 : Value) (e12 : Value) (e13 : Value) (e14 : Value) (e15 : Value) (q0 : OStr Z h0 u [x0, x1, x2, x3, x4, x5, x6, x7, x8] h0.size) (q1 : ∀ c ∈ [x0, x1, x2, x3, x4, x5, x6, x7, x8], ¬ c < 0 ∧ ¬ (255 : Int32) < c) (q2 : Exa Z h0 a "java/lang/StringBuilder") (q3 : Fld Z h0 a "java/lang/AbstractStringBuilder" "value" "[B" (.ref d)) (q4 : Fld Z h0 a "java/lang/AbstractStringBuilder" "coder" "B" (.int 0)) (q5 : Arv Z h0 d kd .byte (16 : Int32) [e0, e1, e2, e3, e4, e5, e6, e7, e8, e9, e10, e11, e12, e13, e14, e15] (.int 0)) (g0 : n0 ≤ d ∧ d < h0.size) :
    OMet l Z own_EL n0 (⟨"java/lang/AbstractStringBuilder", "putStringAt", "(ILjava/lang/String;)V"⟩ : MethodName) (Jvm.Cond.code (⟨"java/lang/AbstractStringBuilder", "putStringAt", "(ILjava/lang/String;)V"⟩ : MethodName) jdk_68_method_73_code 3 none :: wc) ({ frames := 2, cells := 0, slots := 0, locals := 55 } : Room) #[(.ref a), (.int 0), (.ref u)] h0 [d] (fun vq hq => vq = none ∧ Arv Z hq d kd .byte (16 : Int32) [(.int (StrChars.lo8 x0)), (.int (StrChars.lo8 x1)), (.int (StrChars.lo8 x2)), (.int (StrChars.lo8 x3)), (.int (StrChars.lo8 x4)), (.int (StrChars.lo8 x5)), (.int (StrChars.lo8 x6)), (.int (StrChars.lo8 x7)), (.int (StrChars.lo8 x8)), e9, e10, e11, e12, e13, e14, e15] (.int 0)) := by
  refine own_enter #[.val (.ref a), .val (.int 0), .val (.ref u)] pn_java_lang_AbstractStringBuilder_putStringAt__ILjava_lang_String__V (ef_rs_ps9_0 a u d kd x0 x1 x2 x3 x4 x5 x6 x7 x8 e0 e1 e2 e3 e4 e5 e6 e7 e8 e9 e10 e11 e12 e13 e14 e15) hWd.1 O0 (allS g0 all0) ?_
  intro p e s m below meth c T0 X0 hnm hret
  refine og_aloadN X0 1 d18_0 rfl rfl rfl ?_
  refine og_aloadN X0 2 d18_1 rfl rfl rfl ?_
  refine own_priv X0 5 (a := a) (argsL := [(.ref u)]) (rest := []) d18_2 q2 (rs_inf l Z a0 hw n0 h0 hWd [] X0.old a u [x0, x1, x2, x3, x4, x5, x6, x7, x8] q4 q0.top q1 ) (ow hw 105 rfl) (ow hw 106 rfl) (own_selfsel (ow hw 106 rfl) (ow hw 108 rfl) (ow hw 107 rfl) (by decide)) (ow hw 107 rfl) (ow hw 64 rfl) (ow hw 109 rfl) (by decide) (lenOf pd__28Ljava_2flang_2fString_3b_29V rfl) rfl rfl rfl (W := 0) rfl (by decide) (by decide) (by decide) (by decide) all0 rfl ?_
  intro T1 h1 v1 X1 K1 hQ1
  obtain rfl := hQ1
  show OGo _ _ _ _ T1 (mkF m 5 #[.val (.ref a), .val (.int 0), .val (.ref u)] [])
  refine og_aloadN X1 6 d18_5 rfl rfl rfl ?_
  refine og_aloadN X1 7 d18_6 rfl rfl rfl ?_
  have f2 := q3.keep K1 nin0
  refine own_get X1 10 d18_7 (host := "") (Or.inl (ow hw 68 rfl)) Via.refl f2 rfl ?_
  intro T3 X4
  refine og_iloadN X4 11 d18_10 rfl rfl ?_
  refine og_aloadN X4 12 d18_11 rfl rfl rfl ?_
  have f5 := q4.keep K1 nin0
  refine own_get X4 15 d18_12 (host := "") (Or.inl (ow hw 70 rfl)) Via.refl f5 rfl ?_
  intro T6 X7
  have f8 := q0.exa.keep K1
  have f9 := q0.keep K1 all0
  have f10 := q5.keep K1 nin0
  refine own_virt X7 18 (a := u) (argsL := [(.ref d), (.int 0), (.int 0)]) (rest := []) d18_15 f8 (fun _ hZ => notFace_of_selects (args := #[]) (mvT hZ (ow hw 114 rfl))) (rs_gb9_0 l Z a0 hw n0 h1 hWd [] X7.old u d kd x0 x1 x2 x3 x4 x5 x6 x7 x8 e0 e1 e2 e3 e4 e5 e6 e7 e8 e9 e10 e11 e12 e13 e14 e15 f9.top q1 f10 (own_svb X7 (om 0 rfl))) (ow hw 111 rfl) (ow hw 112 rfl) (ow hw 114 rfl) (ow hw 113 rfl) (ow hw 8 rfl) (ow hw 115 rfl) (by decide) (lenOf pd__28_5bBIB_29V rfl) rfl rfl rfl (W := 0) rfl (by decide) (by decide) (by decide) (by decide) (allS (om 0 rfl) all0) rfl ?_
  intro T11 h11 v11 X11 K11 hQ11
  obtain ⟨rfl, f12⟩ := hQ11
  show OGo _ _ _ _ T11 (mkF m 18 #[.val (.ref a), .val (.int 0), .val (.ref u)] [])
  refine own_retV X11 d18_18 hret (by decide) (by decide) ?_
  exact ⟨rfl, f12⟩
theorem rs_aa9_0 (l : Launch) (Z : State) (a0 : Array Value) (hw : ∀ d ∈ tables_1, d.before a0 Z = true) (n0 : Nat) (h0 : Heap) (hWd : OWorld Z a0) (wc : List Jvm.Cond) (O0 : Old Z n0 h0) (a : Addr) (u : Addr) (d : Addr) (kd : ClassId) (x0 : Int32) (x1 : Int32) (x2 : Int32) (x3 : Int32) (x4 : Int32) (x5 : Int32) (x6 : Int32) (x7 : Int32) (x8 : Int32) (e0 : Value) (e1 : Value) (e2 : Value) (e3 : Value) (e4 : Value) (e5 : Value) (e6 : Value) (e7 : Value) (e8 : Value) (e9 : Value) (e10 : Value) (e11 : Value) (e12 : Value) (e13 : Value) (e14 : Value) (e15 : Value) (q0 : OStr Z h0 u [x0, x1, x2, x3, x4, x5, x6, x7, x8] h0.size) (q1 : ∀ c ∈ [x0, x1, x2, x3, x4, x5, x6, x7, x8], ¬ c < 0 ∧ ¬ (255 : Int32) < c) (q2 : Exa Z h0 a "java/lang/StringBuilder") (q3 : Fld Z h0 a "java/lang/AbstractStringBuilder" "value" "[B" (.ref d)) (q4 : Fld Z h0 a "java/lang/AbstractStringBuilder" "coder" "B" (.int 0)) (q5 : Fld Z h0 a "java/lang/AbstractStringBuilder" "count" "I" (.int 0)) (q6 : Arv Z h0 d kd .byte (16 : Int32) [e0, e1, e2, e3, e4, e5, e6, e7, e8, e9, e10, e11, e12, e13, e14, e15] (.int 0)) (g0 : n0 ≤ a ∧ a < h0.size) (g1 : n0 ≤ d ∧ d < h0.size) :
    OMet l Z own_EL n0 (⟨"java/lang/AbstractStringBuilder", "append", "(Ljava/lang/String;)Ljava/lang/AbstractStringBuilder;"⟩ : MethodName) (Jvm.Cond.code (⟨"java/lang/AbstractStringBuilder", "append", "(Ljava/lang/String;)Ljava/lang/AbstractStringBuilder;"⟩ : MethodName) jdk_68_method_22_code 3 (some (.object "java/lang/AbstractStringBuilder")) :: wc) ({ frames := 3, cells := 0, slots := 0, locals := 69 } : Room) #[(.ref a), (.ref u)] h0 [a, d] (fun vq hq => vq = some (.ref a) ∧ Fld Z hq a "java/lang/AbstractStringBuilder" "value" "[B" (.ref d) ∧ Fld Z hq a "java/lang/AbstractStringBuilder" "coder" "B" (.int 0) ∧ Fld Z hq a "java/lang/AbstractStringBuilder" "count" "I" (.int 9) ∧ Arv Z hq d kd .byte (16 : Int32) [(.int (StrChars.lo8 x0)), (.int (StrChars.lo8 x1)), (.int (StrChars.lo8 x2)), (.int (StrChars.lo8 x3)), (.int (StrChars.lo8 x4)), (.int (StrChars.lo8 x5)), (.int (StrChars.lo8 x6)), (.int (StrChars.lo8 x7)), (.int (StrChars.lo8 x8)), e9, e10, e11, e12, e13, e14, e15] (.int 0)) := by
  refine own_enter #[.val (.ref a), .val (.ref u), .unset] pn_java_lang_AbstractStringBuilder_append__Ljava_lang_String__Ljava_lang_AbstractStringBuilder_ (ef_rs_aa9_0 a u d kd x0 x1 x2 x3 x4 x5 x6 x7 x8 e0 e1 e2 e3 e4 e5 e6 e7 e8 e9 e10 e11 e12 e13 e14 e15) hWd.1 O0 (allS g0 (allS g1 all0)) ?_
  intro p e s m below meth c T0 X0 hnm hret
  refine og_aloadN X0 1 d14_0 rfl rfl rfl ?_
  refine og_nonnullY X0 9 d14_1 (by decide) (by decide) ?_
  refine og_aloadN X0 10 d14_9 rfl rfl rfl ?_
  refine own_strLen X0 13 d14_10 q0 (own_wL hw) (ow hw 7 rfl) hWd.2.1 hWd.2.2 (ow hw 83 rfl) (ow hw 84 rfl) (ow hw 86 rfl) (ow hw 85 rfl) rfl (W := 0) rfl (by decide) (by decide) (by decide) (by decide) rfl ?_
  intro T1 X2
  show OGo _ _ _ _ T1 (mkF m 13 #[.val (.ref a), .val (.ref u), .unset] [(.int 9)])
  refine og_istoreN X2 14 #[.val (.ref a), .val (.ref u), .val (.int 9)] d14_13 rfl rfl ?_
  refine og_aloadN X2 15 d14_14 rfl rfl rfl ?_
  refine og_aloadN X2 16 d14_15 rfl rfl rfl ?_
  refine own_get X2 19 d14_16 (host := "") (Or.inl (ow hw 93 rfl)) Via.refl q5 rfl ?_
  intro T3 X4
  refine og_iloadN X4 20 d14_19 rfl rfl ?_
  refine og_iadd X4 21 d14_20 rfl ?_
  show OGo _ _ _ _ T3 (mkF m 21 #[.val (.ref a), .val (.ref u), .val (.int 9)] [(.int 9), (.ref a)])
  refine own_priv X4 24 (a := a) (argsL := [(.int 9)]) (rest := []) d14_21 q2 (rs_ens l Z a0 hw n0 h0 hWd [] X4.old a d kd [e0, e1, e2, e3, e4, e5, e6, e7, e8, e9, e10, e11, e12, e13, e14, e15] (9 : Int32) q3 q4 q6 (by decide) ) (ow hw 95 rfl) (ow hw 96 rfl) (own_selfsel (ow hw 96 rfl) (ow hw 98 rfl) (ow hw 97 rfl) (by decide)) (ow hw 97 rfl) (ow hw 64 rfl) (ow hw 99 rfl) (by decide) (lenOf pd__28I_29V rfl) rfl rfl rfl (W := 0) rfl (by decide) (by decide) (by decide) (by decide) all0 rfl ?_
  intro T5 h5 v5 X5 K5 hQ5
  obtain rfl := hQ5
  show OGo _ _ _ _ T5 (mkF m 24 #[.val (.ref a), .val (.ref u), .val (.int 9)] [])
  refine og_aloadN X5 25 d14_24 rfl rfl rfl ?_
  refine og_aloadN X5 26 d14_25 rfl rfl rfl ?_
  have f6 := q5.keep K5 nin0
  refine own_get X5 29 d14_26 (host := "") (Or.inl (ow hw 93 rfl)) Via.refl f6 rfl ?_
  intro T7 X8
  refine og_aloadN X8 30 d14_29 rfl rfl rfl ?_
  have f9 := q2.keep K5
  have f10 := q0.keep K5 all0
  have f11 := q3.keep K5 nin0
  have f12 := q4.keep K5 nin0
  have f13 := q6.keep K5 nin0
  refine own_priv X8 33 (a := a) (argsL := [(.int 0), (.ref u)]) (rest := []) d14_30 f9 (rs_ps9_0 l Z a0 hw n0 h5 hWd [] X8.old a u d kd x0 x1 x2 x3 x4 x5 x6 x7 x8 e0 e1 e2 e3 e4 e5 e6 e7 e8 e9 e10 e11 e12 e13 e14 e15 f10.top q1 f9 f11 f12 f13 (own_svb X8 (om 1 rfl))) (ow hw 100 rfl) (ow hw 101 rfl) (own_selfsel (ow hw 101 rfl) (ow hw 103 rfl) (ow hw 102 rfl) (by decide)) (ow hw 102 rfl) (ow hw 64 rfl) (ow hw 104 rfl) (by decide) (lenOf pd__28ILjava_2flang_2fString_3b_29V rfl) rfl rfl rfl (W := 0) rfl (by decide) (by decide) (by decide) (by decide) (allS (om 1 rfl) all0) rfl ?_
  intro T14 h14 v14 X14 K14 hQ14
  obtain ⟨rfl, f15⟩ := hQ14
  show OGo _ _ _ _ T14 (mkF m 33 #[.val (.ref a), .val (.ref u), .val (.int 9)] [])
  refine og_aloadN X14 34 d14_33 rfl rfl rfl ?_
  refine og_dup X14 35 d14_34 rfl rfl ?_
  have f16 := f6.keep K14 (ninS (own_neA (f9.keep K14) (ow hw 55 rfl) f15) nin0)
  refine own_get X14 38 d14_35 (host := "") (Or.inl (ow hw 93 rfl)) Via.refl f16 rfl ?_
  intro T17 X18
  refine og_iloadN X18 39 d14_38 rfl rfl ?_
  refine og_iadd X18 40 d14_39 rfl ?_
  show OGo _ _ _ _ T17 (mkF m 40 #[.val (.ref a), .val (.ref u), .val (.int 9)] [(.int 9), (.ref a)])
  have f19 := f9.keep K14
  have f20 := f11.keep K14 (ninS (own_neA f19 (ow hw 55 rfl) f15) nin0)
  have f21 := f12.keep K14 (ninS (own_neA f19 (ow hw 55 rfl) f15) nin0)
  refine own_put X18 43 d14_40 (host := "") (Or.inl (ow hw 93 rfl)) Via.refl f16 f19 (Or.inl (ow hw 94 rfl)) (ow hw 55 rfl) (ty := .int) (by decide) rfl rfl (om 0 rfl) rfl ?_
  intro T22 h22 X22 W22 K22 F22
  have f23 := Fld.other W22 f20 (Or.inr (slot_ne (Or.inl (ow hw 69 rfl)) (Or.inl (ow hw 94 rfl)) (by decide) (t := (.array .byte)) (t' := .int) (by decide) (by decide)))
  have f24 := Fld.other W22 f21 (Or.inr (slot_ne (Or.inl (ow hw 71 rfl)) (Or.inl (ow hw 94 rfl)) (by decide) (t := .byte) (t' := .int) (by decide) (by decide)))
  refine og_aloadN X22 44 d14_43 rfl rfl rfl ?_
  have f25 := f15.keep K22 (ninS (Ne.symm (own_neA f19 (ow hw 55 rfl) f15)) nin0)
  refine own_retA X22 d14_44 hret rfl rfl (by decide) (by decide) ?_
  exact ⟨rfl, f23, f24, F22, f25⟩
theorem rs_sa9_0 (l : Launch) (Z : State) (a0 : Array Value) (hw : ∀ d ∈ tables_1, d.before a0 Z = true) (n0 : Nat) (h0 : Heap) (hWd : OWorld Z a0) (wc : List Jvm.Cond) (O0 : Old Z n0 h0) (a : Addr) (u : Addr) (d : Addr) (kd : ClassId) (x0 : Int32) (x1 : Int32) (x2 : Int32) (x3 : Int32) (x4 : Int32) (x5 : Int32) (x6 : Int32) (x7 : Int32) (x8 : Int32) (e0 : Value) (e1 : Value) (e2 : Value) (e3 : Value) (e4 : Value) (e5 : Value) (e6 : Value) (e7 : Value) (e8 : Value) (e9 : Value) (e10 : Value) (e11 : Value) (e12 : Value) (e13 : Value) (e14 : Value) (e15 : Value) (q0 : OStr Z h0 u [x0, x1, x2, x3, x4, x5, x6, x7, x8] h0.size) (q1 : ∀ c ∈ [x0, x1, x2, x3, x4, x5, x6, x7, x8], ¬ c < 0 ∧ ¬ (255 : Int32) < c) (q2 : Exa Z h0 a "java/lang/StringBuilder") (q3 : Fld Z h0 a "java/lang/AbstractStringBuilder" "value" "[B" (.ref d)) (q4 : Fld Z h0 a "java/lang/AbstractStringBuilder" "coder" "B" (.int 0)) (q5 : Fld Z h0 a "java/lang/AbstractStringBuilder" "count" "I" (.int 0)) (q6 : Arv Z h0 d kd .byte (16 : Int32) [e0, e1, e2, e3, e4, e5, e6, e7, e8, e9, e10, e11, e12, e13, e14, e15] (.int 0)) (g0 : n0 ≤ a ∧ a < h0.size) (g1 : n0 ≤ d ∧ d < h0.size) :
    OMet l Z own_EL n0 (⟨"java/lang/StringBuilder", "append", "(Ljava/lang/String;)Ljava/lang/StringBuilder;"⟩ : MethodName) (Jvm.Cond.code (⟨"java/lang/StringBuilder", "append", "(Ljava/lang/String;)Ljava/lang/StringBuilder;"⟩ : MethodName) jdk_67_method_7_code 2 (some (.object "java/lang/StringBuilder")) :: wc) ({ frames := 4, cells := 0, slots := 0, locals := 83 } : Room) #[(.ref a), (.ref u)] h0 [a, d] (fun vq hq => vq = some (.ref a) ∧ Fld Z hq a "java/lang/AbstractStringBuilder" "value" "[B" (.ref d) ∧ Fld Z hq a "java/lang/AbstractStringBuilder" "coder" "B" (.int 0) ∧ Fld Z hq a "java/lang/AbstractStringBuilder" "count" "I" (.int 9) ∧ Arv Z hq d kd .byte (16 : Int32) [(.int (StrChars.lo8 x0)), (.int (StrChars.lo8 x1)), (.int (StrChars.lo8 x2)), (.int (StrChars.lo8 x3)), (.int (StrChars.lo8 x4)), (.int (StrChars.lo8 x5)), (.int (StrChars.lo8 x6)), (.int (StrChars.lo8 x7)), (.int (StrChars.lo8 x8)), e9, e10, e11, e12, e13, e14, e15] (.int 0)) := by
  refine own_enter #[.val (.ref a), .val (.ref u)] pn_java_lang_StringBuilder_append__Ljava_lang_String__Ljava_lang_StringBuilder_ (ef_rs_sa9_0 a u d kd x0 x1 x2 x3 x4 x5 x6 x7 x8 e0 e1 e2 e3 e4 e5 e6 e7 e8 e9 e10 e11 e12 e13 e14 e15) hWd.1 O0 (allS g0 (allS g1 all0)) ?_
  intro p e s m below meth c T0 X0 hnm hret
  refine og_aloadN X0 1 d13_0 rfl rfl rfl ?_
  refine og_aloadN X0 2 d13_1 rfl rfl rfl ?_
  refine own_super X0 5 (a := a) (argsL := [(.ref u)]) (rest := []) d13_2 (by decide) (Ins.self q2) (rs_aa9_0 l Z a0 hw n0 h0 hWd [] X0.old a u d kd x0 x1 x2 x3 x4 x5 x6 x7 x8 e0 e1 e2 e3 e4 e5 e6 e7 e8 e9 e10 e11 e12 e13 e14 e15 q0.top q1 q2 q3 q4 q5 q6 (own_svb X0 (om 0 rfl)) (own_svb X0 (om 1 rfl))) (ow hw 78 rfl) (own_samem (ow hw 98 rfl) rfl (ow hw 79 rfl) (by decide)) (ow hw 79 rfl) (ow hw 80 rfl) (ow hw 64 rfl) (ow hw 82 rfl) (by decide) (lenOf pd__28Ljava_2flang_2fString_3b_29Ljava_2flang_2fAbstractStringBuilder_3b rfl) rfl rfl rfl (W := 0) rfl (by decide) (by decide) (by decide) (by decide) (allS (om 0 rfl) (allS (om 1 rfl) all0)) rfl ?_
  intro T1 h1 v1 X1 K1 hQ1
  obtain ⟨rfl, f2, f3, f4, f5⟩ := hQ1
  show OGo _ _ _ _ T1 (mkF m 5 #[.val (.ref a), .val (.ref u)] [(.ref a)])
  refine og_pop X1 6 d13_5 rfl rfl ?_
  refine og_aloadN X1 7 d13_6 rfl rfl rfl ?_
  refine own_retA X1 d13_7 hret rfl rfl (by decide) (by decide) ?_
  exact ⟨rfl, f2, f3, f4, f5⟩
theorem rm31 (l : Launch) (Z : State) (a0 : Array Value) (hw : ∀ d ∈ tables_1, d.before a0 Z = true) (n0 : Nat) (h0 : Heap) (hWd : OWorld Z a0) (wc : List Jvm.Cond) (O0 : Old Z n0 h0) (x : Int32) (y : Int32) (q0 : y < x) :
    OMet l Z own_EL n0 (⟨"java/lang/Math", "min", "(II)I"⟩ : MethodName) (Jvm.Cond.code (⟨"java/lang/Math", "min", "(II)I"⟩ : MethodName) jdk_29_method_69_code 2 (some .int) :: wc) ({ frames := 0, cells := 0, slots := 0, locals := 0 } : Room) #[(.int x), (.int y)] h0 [] (fun vq hq => vq = some (.int y)) := by
  refine own_enter #[.val (.int x), .val (.int y)] pn_java_lang_Math_min__II_I (ef_rm31 x y) hWd.1 O0 all0 ?_
  intro p e s m below meth c T0 X0 hnm hret
  refine og_iloadN X0 1 d31_0 rfl rfl ?_
  refine og_iloadN X0 2 d31_1 rfl rfl ?_
  refine og_icmpY X0 9 d31_2 (XT.ii_gt_t q0) (by decide) (by decide) ?_
  refine og_iloadN X0 10 d31_9 rfl rfl ?_
  refine own_retI X0 d31_10 hret (by decide) (by decide) ?_
  exact rfl
theorem rm30 (l : Launch) (Z : State) (a0 : Array Value) (hw : ∀ d ∈ tables_1, d.before a0 Z = true) (n0 : Nat) (h0 : Heap) (hWd : OWorld Z a0) (wc : List Jvm.Cond) (O0 : Old Z n0 h0) (x : Int32) (y : Int32) (q0 : ¬ y < x) :
    OMet l Z own_EL n0 (⟨"java/util/Arrays", "checkLength", "(II)V"⟩ : MethodName) (Jvm.Cond.code (⟨"java/util/Arrays", "checkLength", "(II)V"⟩ : MethodName) jdk_65_method_131_code 2 none :: wc) ({ frames := 0, cells := 0, slots := 0, locals := 0 } : Room) #[(.int x), (.int y)] h0 [] (fun vq hq => vq = none) := by
  refine own_enter #[.val (.int x), .val (.int y)] pn_java_util_Arrays_checkLength__II_V (ef_rm30 x y) hWd.1 O0 all0 ?_
  intro p e s m below meth c T0 X0 hnm hret
  refine og_iloadN X0 1 d30_0 rfl rfl ?_
  refine og_iloadN X0 2 d30_1 rfl rfl ?_
  refine og_icmpY X0 37 d30_2 (XT.ii_ge_t q0) (by decide) (by decide) ?_
  refine own_retV X0 d30_37 hret (by decide) (by decide) ?_
  exact rfl
theorem rm24 (l : Launch) (Z : State) (a0 : Array Value) (hw : ∀ d ∈ tables_1, d.before a0 Z = true) (n0 : Nat) (h0 : Heap) (hWd : OWorld Z a0) (wc : List Jvm.Cond) (O0 : Old Z n0 h0) (a : Addr) (d : Addr) (q0 : Fld Z h0 a "java/lang/AbstractStringBuilder" "value" "[B" (.ref d)) :
    OMet l Z own_EL n0 (⟨"java/lang/AbstractStringBuilder", "getValue", "()[B"⟩ : MethodName) (Jvm.Cond.code (⟨"java/lang/AbstractStringBuilder", "getValue", "()[B"⟩ : MethodName) jdk_68_method_64_code 1 (some (.array .byte)) :: wc) ({ frames := 0, cells := 0, slots := 0, locals := 0 } : Room) #[(.ref a)] h0 [] (fun vq hq => vq = some (.ref d)) := by
  refine own_enter #[.val (.ref a)] pn_java_lang_AbstractStringBuilder_getValue____B (ef_rm24 a d) hWd.1 O0 all0 ?_
  intro p e s m below meth c T0 X0 hnm hret
  refine og_aloadN X0 1 d24_0 rfl rfl rfl ?_
  refine own_get X0 4 d24_1 (host := "") (Or.inl (ow hw 68 rfl)) Via.refl q0 rfl ?_
  intro T1 X2
  refine own_retA X2 d24_4 hret rfl rfl (by decide) (by decide) ?_
  exact rfl
theorem rm26 (l : Launch) (Z : State) (a0 : Array Value) (hw : ∀ d ∈ tables_1, d.before a0 Z = true) (n0 : Nat) (h0 : Heap) (hWd : OWorld Z a0) (wc : List Jvm.Cond) (O0 : Old Z n0 h0) (a : Addr) (x : Int32) (q0 : Fld Z h0 a "java/lang/AbstractStringBuilder" "count" "I" (.int x)) :
    OMet l Z own_EL n0 (⟨"java/lang/AbstractStringBuilder", "length", "()I"⟩ : MethodName) (Jvm.Cond.code (⟨"java/lang/AbstractStringBuilder", "length", "()I"⟩ : MethodName) jdk_68_method_6_code 1 (some .int) :: wc) ({ frames := 0, cells := 0, slots := 0, locals := 0 } : Room) #[(.ref a)] h0 [] (fun vq hq => vq = some (.int x)) := by
  refine own_enter #[.val (.ref a)] pn_java_lang_AbstractStringBuilder_length___I (ef_rm26 a x) hWd.1 O0 all0 ?_
  intro p e s m below meth c T0 X0 hnm hret
  refine og_aloadN X0 1 d26_0 rfl rfl rfl ?_
  refine own_get X0 4 d26_1 (host := "") (Or.inl (ow hw 93 rfl)) Via.refl q0 rfl ?_
  intro T1 X2
  refine own_retI X2 d26_4 hret (by decide) (by decide) ?_
  exact rfl
theorem rm25 (l : Launch) (Z : State) (a0 : Array Value) (hw : ∀ d ∈ tables_1, d.before a0 Z = true) (n0 : Nat) (h0 : Heap) (hWd : OWorld Z a0) (wc : List Jvm.Cond) (O0 : Old Z n0 h0) (a : Addr) (x : Int32) (q0 : Exa Z h0 a "java/lang/StringBuilder") (q1 : Fld Z h0 a "java/lang/AbstractStringBuilder" "count" "I" (.int x)) :
    OMet l Z own_EL n0 (⟨"java/lang/StringBuilder", "length", "()I"⟩ : MethodName) (Jvm.Cond.code (⟨"java/lang/StringBuilder", "length", "()I"⟩ : MethodName) jdk_67_method_93_code 1 (some .int) :: wc) ({ frames := 1, cells := 0, slots := 0, locals := 12 } : Room) #[(.ref a)] h0 [] (fun vq hq => vq = some (.int x)) := by
  refine own_enter #[.val (.ref a)] pn_java_lang_StringBuilder_length___I (ef_rm25 a x) hWd.1 O0 all0 ?_
  intro p e s m below meth c T0 X0 hnm hret
  refine og_aloadN X0 1 d25_0 rfl rfl rfl ?_
  refine own_super X0 4 (a := a) (argsL := []) (rest := []) d25_1 (by decide) (Ins.self q0) (rm26 l Z a0 hw n0 h0 hWd [] X0.old a x q1 ) (ow hw 144 rfl) (own_samem (ow hw 98 rfl) rfl (ow hw 140 rfl) (by decide)) (ow hw 140 rfl) (ow hw 80 rfl) (ow hw 64 rfl) (ow hw 145 rfl) (by decide) (lenOf pd__28_29I rfl) rfl rfl rfl (W := 0) rfl (by decide) (by decide) (by decide) (by decide) all0 rfl ?_
  intro T1 h1 v1 X1 K1 hQ1
  obtain rfl := hQ1
  show OGo _ _ _ _ T1 (mkF m 4 #[.val (.ref a)] [(.int x)])
  refine own_retI X1 d25_4 hret (by decide) (by decide) ?_
  exact rfl
theorem rm27 (l : Launch) (Z : State) (a0 : Array Value) (hw : ∀ d ∈ tables_1, d.before a0 Z = true) (n0 : Nat) (h0 : Heap) (hWd : OWorld Z a0) (wc : List Jvm.Cond) (O0 : Old Z n0 h0) (a : Addr) (q0 : Fld Z h0 a "java/lang/AbstractStringBuilder" "coder" "B" (.int 0)) :
    OMet l Z own_EL n0 (⟨"java/lang/AbstractStringBuilder", "isLatin1", "()Z"⟩ : MethodName) (Jvm.Cond.code (⟨"java/lang/AbstractStringBuilder", "isLatin1", "()Z"⟩ : MethodName) jdk_68_method_68_code 1 (some .boolean) :: wc) ({ frames := 0, cells := 0, slots := 0, locals := 0 } : Room) #[(.ref a)] h0 [] (fun vq hq => vq = some (.int 1)) := by
  refine own_enter #[.val (.ref a)] pn_java_lang_AbstractStringBuilder_isLatin1___Z (ef_rm27 a) hWd.1 O0 all0 ?_
  intro p e s m below meth c T0 X0 hnm hret
  refine own_getS X0 3 d27_0 (host := "") (Or.inl (ow hw 67 rfl)) Via.refl hWd.2.1 rfl ?_
  intro T1 X2
  refine og_ifN X2 6 d27_3 (XT.i0_eq_f hWd.2.2) rfl ?_
  refine og_aloadN X2 7 d27_6 rfl rfl rfl ?_
  refine own_get X2 10 d27_7 (host := "") (Or.inl (ow hw 70 rfl)) Via.refl q0 rfl ?_
  intro T3 X4
  refine og_ifN X4 13 d27_10 (XT.i0_ne_f (by decide)) rfl ?_
  refine og_iconst X4 14 (1 : Int32) d27_13 rfl rfl ?_
  refine og_goto X4 18 d27_14 (by decide) (by decide) ?_
  refine own_retZ X4 d27_18 hret rfl (by decide) (by decide) ?_
  exact rfl
theorem rs_crb11 (l : Launch) (Z : State) (a0 : Array Value) (hw : ∀ d ∈ tables_1, d.before a0 Z = true) (n0 : Nat) (h0 : Heap) (hWd : OWorld Z a0) (wc : List Jvm.Cond) (O0 : Old Z n0 h0) (b : Addr) (kb : ClassId) (e0 : Value) (e1 : Value) (e2 : Value) (e3 : Value) (e4 : Value) (e5 : Value) (e6 : Value) (e7 : Value) (e8 : Value) (e9 : Value) (e10 : Value) (e11 : Value) (e12 : Value) (e13 : Value) (e14 : Value) (e15 : Value) (q0 : Arv Z h0 b kb .byte (16 : Int32) [e0, e1, e2, e3, e4, e5, e6, e7, e8, e9, e10, e11, e12, e13, e14, e15] (.int 0)) :
    OMet l Z own_EL n0 (⟨"java/util/Arrays", "copyOfRangeByte", "([BII)[B"⟩ : MethodName) (Jvm.Cond.code (⟨"java/util/Arrays", "copyOfRangeByte", "([BII)[B"⟩ : MethodName) jdk_65_method_133_code 5 (some (.array .byte)) :: wc) ({ frames := 1, cells := 1, slots := 11, locals := 40 } : Room) #[(.ref b), (.int 0), (.int 11)] h0 [] (fun vq hq => ∃ (r : Addr) (kr : ClassId), vq = some (.ref r) ∧ h0.size ≤ r ∧ Arv Z hq r kr .byte (11 : Int32) [e0, e1, e2, e3, e4, e5, e6, e7, e8, e9, e10] (.int 0)) := by
  refine own_enter #[.val (.ref b), .val (.int 0), .val (.int 11), .unset, .unset] pn_java_util_Arrays_copyOfRangeByte___BII__B (ef_rs_crb11 b kb e0 e1 e2 e3 e4 e5 e6 e7 e8 e9 e10 e11 e12 e13 e14 e15) hWd.1 O0 all0 ?_
  intro p e s m below meth c T0 X0 hnm hret
  refine og_iloadN X0 1 d29_0 rfl rfl ?_
  refine og_iloadN X0 2 d29_1 rfl rfl ?_
  refine own_stat X0 5 (argsL := [(.int 0), (.int 11)]) (rest := []) d29_2 (rm30 l Z a0 hw n0 h0 hWd [] X0.old (0 : Int32) (11 : Int32) (by decide) ) (ow hw 158 rfl) (ow hw 159 rfl) (ow hw 153 rfl) (ow hw 160 rfl) (by decide) (lenOf pd__28II_29V rfl) rfl rfl rfl (W := 0) rfl (by decide) (by decide) (by decide) (by decide) all0 rfl ?_
  intro T1 h1 v1 X1 K1 hQ1
  obtain rfl := hQ1
  show OGo _ _ _ _ T1 (mkF m 5 #[.val (.ref b), .val (.int 0), .val (.int 11), .unset, .unset] [])
  refine og_iloadN X1 6 d29_5 rfl rfl ?_
  refine og_iloadN X1 7 d29_6 rfl rfl ?_
  refine og_isub X1 8 d29_7 rfl ?_
  show OGo _ _ _ _ T1 (mkF m 8 #[.val (.ref b), .val (.int 0), .val (.int 11), .unset, .unset] [(.int 11)])
  refine og_istoreN X1 9 #[.val (.ref b), .val (.int 0), .val (.int 11), .val (.int 11), .unset] d29_8 rfl rfl ?_
  refine og_iloadN X1 10 d29_9 rfl rfl ?_
  refine own_arr X1 12 d29_10 (ow hw 24 rfl) (by decide) (cap := 11) (by decide) (by decide) (by decide) (by decide) rfl ?_
  intro T2 h2 b2 kb2 X2 K2 G2 U2 A2
  have f3 : Arv Z h2 b2 kb2 .byte (11 : Int32) [(.int 0), (.int 0), (.int 0), (.int 0), (.int 0), (.int 0), (.int 0), (.int 0), (.int 0), (.int 0), (.int 0)] (.int 0) := A2
  refine og_astore X2 14 #[.val (.ref b), .val (.int 0), .val (.int 11), .val (.int 11), .val (.ref b2)] d29_12 rfl rfl rfl ?_
  refine og_aloadN X2 15 d29_14 rfl rfl rfl ?_
  refine og_iloadN X2 16 d29_15 rfl rfl ?_
  refine og_aload X2 18 d29_16 rfl rfl rfl ?_
  refine og_iconst X2 19 (0 : Int32) d29_18 rfl rfl ?_
  refine og_aloadN X2 20 d29_19 rfl rfl rfl ?_
  have f4 := q0.keep K1 nin0
  have f5 := f4.keep K2 nin0
  refine own_len X2 21 d29_20 f5 rfl ?_
  refine og_iloadN X2 22 d29_21 rfl rfl ?_
  refine og_isub X2 23 d29_22 rfl ?_
  show OGo _ _ _ _ T2 (mkF m 23 #[.val (.ref b), .val (.int 0), .val (.int 11), .val (.int 11), .val (.ref b2)] [(.int 16), (.int 0), (.ref b2), (.int 0), (.ref b)])
  refine og_iloadN X2 24 d29_23 rfl rfl ?_
  refine own_stat X2 27 (argsL := [(.int 16), (.int 11)]) (rest := [(.int 0), (.ref b2), (.int 0), (.ref b)]) d29_24 (rm31 l Z a0 hw n0 h2 hWd [] X2.old (16 : Int32) (11 : Int32) (by decide) ) (ow hw 161 rfl) (ow hw 162 rfl) (ow hw 163 rfl) (ow hw 164 rfl) (by decide) (lenOf pd__28II_29I rfl) rfl rfl rfl (W := 4) rfl (by decide) (by decide) (by decide) (by decide) all0 rfl ?_
  intro T6 h6 v6 X6 K6 hQ6
  obtain rfl := hQ6
  show OGo _ _ _ _ T6 (mkF m 27 #[.val (.ref b), .val (.int 0), .val (.int 11), .val (.int 11), .val (.ref b2)] [(.int 11), (.int 0), (.ref b2), (.int 0), (.ref b)])
  have f7 := f5.keep K6 nin0
  have f8 := f3.keep K6 nin0
  refine own_cp X6 30 (us := [e0, e1, e2, e3, e4, e5, e6, e7, e8, e9, e10]) (rest := []) d29_27 f7 f8 rfl (om 0 rfl) (ow hw 165 rfl) (ow hw 119 rfl) (ow hw 117 rfl) (ow hw 118 rfl) (by decide) (by decide) (by decide) (by decide) (by decide) rfl (Nat.le_of_ble_eq_true rfl) rfl (W := 0) rfl (by decide) (by decide) rfl ?_
  intro T9 h9 X9 K9 A9
  have f10 : Arv Z h9 b2 kb2 .byte (11 : Int32) [e0, e1, e2, e3, e4, e5, e6, e7, e8, e9, e10] (.int 0) := A9
  show OGo _ _ _ _ T9 (mkF m 30 #[.val (.ref b), .val (.int 0), .val (.int 11), .val (.int 11), .val (.ref b2)] [])
  refine og_aload X9 32 d29_30 rfl rfl rfl ?_
  refine own_retA X9 d29_32 hret rfl rfl (by decide) (by decide) ?_
  exact ⟨b2, kb2, rfl, (Nat.le_trans K1.1 G2), f10⟩
theorem rs_cr11 (l : Launch) (Z : State) (a0 : Array Value) (hw : ∀ d ∈ tables_1, d.before a0 Z = true) (n0 : Nat) (h0 : Heap) (hWd : OWorld Z a0) (wc : List Jvm.Cond) (O0 : Old Z n0 h0) (b : Addr) (kb : ClassId) (e0 : Value) (e1 : Value) (e2 : Value) (e3 : Value) (e4 : Value) (e5 : Value) (e6 : Value) (e7 : Value) (e8 : Value) (e9 : Value) (e10 : Value) (e11 : Value) (e12 : Value) (e13 : Value) (e14 : Value) (e15 : Value) (q0 : Arv Z h0 b kb .byte (16 : Int32) [e0, e1, e2, e3, e4, e5, e6, e7, e8, e9, e10, e11, e12, e13, e14, e15] (.int 0)) :
    OMet l Z own_EL n0 (⟨"java/util/Arrays", "copyOfRange", "([BII)[B"⟩ : MethodName) (Jvm.Cond.code (⟨"java/util/Arrays", "copyOfRange", "([BII)[B"⟩ : MethodName) jdk_65_method_132_code 3 (some (.array .byte)) :: wc) ({ frames := 2, cells := 1, slots := 11, locals := 56 } : Room) #[(.ref b), (.int 0), (.int 11)] h0 [] (fun vq hq => ∃ (r : Addr) (kr : ClassId), vq = some (.ref r) ∧ h0.size ≤ r ∧ Arv Z hq r kr .byte (11 : Int32) [e0, e1, e2, e3, e4, e5, e6, e7, e8, e9, e10] (.int 0)) := by
  refine own_enter #[.val (.ref b), .val (.int 0), .val (.int 11)] pn_java_util_Arrays_copyOfRange___BII__B (ef_rs_cr11 b kb e0 e1 e2 e3 e4 e5 e6 e7 e8 e9 e10 e11 e12 e13 e14 e15) hWd.1 O0 all0 ?_
  intro p e s m below meth c T0 X0 hnm hret
  refine og_iloadN X0 1 d28_0 rfl rfl ?_
  refine og_ifN X0 4 d28_1 (XT.i0_ne_f (by decide)) rfl ?_
  refine og_iloadN X0 5 d28_4 rfl rfl ?_
  refine og_aloadN X0 6 d28_5 rfl rfl rfl ?_
  refine own_len X0 7 d28_6 q0 rfl ?_
  refine og_icmpN X0 10 d28_7 (XT.ii_eq_f (by decide)) rfl ?_
  refine og_aloadN X0 11 d28_10 rfl rfl rfl ?_
  refine og_iloadN X0 12 d28_11 rfl rfl ?_
  refine og_iloadN X0 13 d28_12 rfl rfl ?_
  refine own_stat X0 16 (argsL := [(.ref b), (.int 0), (.int 11)]) (rest := []) d28_13 (rs_crb11 l Z a0 hw n0 h0 hWd [] X0.old b kb e0 e1 e2 e3 e4 e5 e6 e7 e8 e9 e10 e11 e12 e13 e14 e15 q0 ) (ow hw 155 rfl) (ow hw 156 rfl) (ow hw 153 rfl) (ow hw 157 rfl) (by decide) (lenOf pd__28_5bBII_29_5bB rfl) rfl rfl rfl (W := 0) rfl (by decide) (by decide) (by decide) (by decide) all0 rfl ?_
  intro T1 h1 v1 X1 K1 hQ1
  obtain ⟨r1, kr1, rfl, ge_r1, f2⟩ := hQ1
  show OGo _ _ _ _ T1 (mkF m 16 #[.val (.ref b), .val (.int 0), .val (.int 11)] [(.ref r1)])
  refine own_retA X1 d28_16 hret rfl rfl (by decide) (by decide) ?_
  exact ⟨r1, kr1, rfl, ge_r1, f2⟩
theorem rs_iv11 (l : Launch) (Z : State) (a0 : Array Value) (hw : ∀ d ∈ tables_1, d.before a0 Z = true) (n0 : Nat) (h0 : Heap) (hWd : OWorld Z a0) (wc : List Jvm.Cond) (O0 : Old Z n0 h0) (a : Addr) (y : Value) (z : Int32) (b : Addr) (d : Addr) (kd : ClassId) (y0 : Int32) (y1 : Int32) (y2 : Int32) (y3 : Int32) (y4 : Int32) (y5 : Int32) (y6 : Int32) (y7 : Int32) (y8 : Int32) (y9 : Int32) (y10 : Int32) (e11 : Value) (e12 : Value) (e13 : Value) (e14 : Value) (e15 : Value) (q0 : Exa Z h0 a "java/lang/String") (q1 : Fld Z h0 a "java/lang/String" "value" "[B" y) (q2 : Fld Z h0 a "java/lang/String" "coder" "B" (.int z)) (q3 : Exa Z h0 b "java/lang/StringBuilder") (q4 : Fld Z h0 b "java/lang/AbstractStringBuilder" "value" "[B" (.ref d)) (q5 : Fld Z h0 b "java/lang/AbstractStringBuilder" "coder" "B" (.int 0)) (q6 : Fld Z h0 b "java/lang/AbstractStringBuilder" "count" "I" (.int 11)) (q7 : Arv Z h0 d kd .byte (16 : Int32) [(.int (StrChars.lo8 y0)), (.int (StrChars.lo8 y1)), (.int (StrChars.lo8 y2)), (.int (StrChars.lo8 y3)), (.int (StrChars.lo8 y4)), (.int (StrChars.lo8 y5)), (.int (StrChars.lo8 y6)), (.int (StrChars.lo8 y7)), (.int (StrChars.lo8 y8)), (.int (StrChars.lo8 y9)), (.int (StrChars.lo8 y10)), e11, e12, e13, e14, e15] (.int 0)) (q8 : ∀ c ∈ [y0, y1, y2, y3, y4, y5, y6, y7, y8, y9, y10], ¬ c < 0 ∧ ¬ (255 : Int32) < c) (g0 : n0 ≤ a ∧ a < h0.size) :
    OMet l Z own_EL n0 (⟨"java/lang/String", "<init>", "(Ljava/lang/AbstractStringBuilder;Ljava/lang/Void;)V"⟩ : MethodName) (Jvm.Cond.code (⟨"java/lang/String", "<init>", "(Ljava/lang/AbstractStringBuilder;Ljava/lang/Void;)V"⟩ : MethodName) jdk_42_method_150_code 5 none :: wc) ({ frames := 3, cells := 1, slots := 11, locals := 71 } : Room) #[(.ref a), (.ref b), .null] h0 [a] (fun vq hq => vq = none ∧ OStr Z hq a [y0, y1, y2, y3, y4, y5, y6, y7, y8, y9, y10] hq.size) := by
  refine own_enter #[.val (.ref a), .val (.ref b), .val .null, .unset, .unset] pn_java_lang_String__init___Ljava_lang_AbstractStringBuilder_Ljava_lang_Void__V (ef_rs_iv11 a y z b d kd y0 y1 y2 y3 y4 y5 y6 y7 y8 y9 y10 e11 e12 e13 e14 e15) hWd.1 O0 (allS g0 all0) ?_
  intro p e s m below meth c T0 X0 hnm hret
  refine og_aloadN X0 1 d23_0 rfl rfl rfl ?_
  refine own_obj0 X0 4 (a := a) d23_1 (ow hw 16 rfl) (ow hw 17 rfl) (ow hw 18 rfl) rfl (W := 0) rfl (by decide) (by decide) rfl ?_
  intro T1 X2
  refine og_aloadN X2 5 d23_4 rfl rfl rfl ?_
  refine own_virt X2 8 (a := b) (argsL := []) (rest := []) d23_5 q3 (fun _ hZ => notFace_of_selects (args := #[]) (mvT hZ (ow hw 136 rfl))) (rm24 l Z a0 hw n0 h0 hWd [] X2.old b d q4 ) (ow hw 133 rfl) (ow hw 134 rfl) (ow hw 136 rfl) (ow hw 135 rfl) (ow hw 64 rfl) (ow hw 137 rfl) (by decide) (lenOf pd__28_29_5bB rfl) rfl rfl rfl (W := 0) rfl (by decide) (by decide) (by decide) (by decide) all0 rfl ?_
  intro T3 h3 v3 X3 K3 hQ3
  obtain rfl := hQ3
  show OGo _ _ _ _ T3 (mkF m 8 #[.val (.ref a), .val (.ref b), .val .null, .unset, .unset] [(.ref d)])
  refine og_astoreN X3 9 #[.val (.ref a), .val (.ref b), .val .null, .val (.ref d), .unset] d23_8 rfl rfl rfl ?_
  refine og_aloadN X3 10 d23_9 rfl rfl rfl ?_
  have f4 := q3.keep K3
  have f5 := q6.keep K3 nin0
  refine own_virt X3 13 (a := b) (argsL := []) (rest := []) d23_10 f4 (fun _ hZ => own_nfz (args := #[]) (y := (⟨"java/lang/AbstractStringBuilder", "length", "()I"⟩ : MethodName)) (mvT hZ (ow hw 98 rfl)) rfl) (rm25 l Z a0 hw n0 h3 hWd [] X3.old b (11 : Int32) f4 f5 ) (ow hw 138 rfl) (ow hw 139 rfl) (ow hw 141 rfl) (ow hw 142 rfl) (ow hw 56 rfl) (ow hw 143 rfl) (by decide) (lenOf pd__28_29I rfl) rfl rfl rfl (W := 0) rfl (by decide) (by decide) (by decide) (by decide) all0 rfl ?_
  intro T6 h6 v6 X6 K6 hQ6
  obtain rfl := hQ6
  show OGo _ _ _ _ T6 (mkF m 13 #[.val (.ref a), .val (.ref b), .val .null, .val (.ref d), .unset] [(.int 11)])
  refine og_istore X6 15 #[.val (.ref a), .val (.ref b), .val .null, .val (.ref d), .val (.int 11)] d23_13 rfl rfl ?_
  refine og_aloadN X6 16 d23_15 rfl rfl rfl ?_
  have f7 := f4.keep K6
  have f8 := q5.keep K3 nin0
  have f9 := f8.keep K6 nin0
  refine own_virt X6 19 (a := b) (argsL := []) (rest := []) d23_16 f7 (fun _ hZ => notFace_of_selects (args := #[]) (mvT hZ (ow hw 149 rfl))) (rm27 l Z a0 hw n0 h6 hWd [] X6.old b f9 ) (ow hw 146 rfl) (ow hw 147 rfl) (ow hw 149 rfl) (ow hw 148 rfl) (ow hw 64 rfl) (ow hw 150 rfl) (by decide) (lenOf pd__28_29Z rfl) rfl rfl rfl (W := 0) rfl (by decide) (by decide) (by decide) (by decide) all0 rfl ?_
  intro T10 h10 v10 X10 K10 hQ10
  obtain rfl := hQ10
  show OGo _ _ _ _ T10 (mkF m 19 #[.val (.ref a), .val (.ref b), .val .null, .val (.ref d), .val (.int 11)] [(.int 1)])
  refine og_ifN X10 22 d23_19 (XT.i0_eq_f (by decide)) rfl ?_
  refine og_aloadN X10 23 d23_22 rfl rfl rfl ?_
  refine og_iconst X10 24 (0 : Int32) d23_23 rfl rfl ?_
  have f11 := q2.keep K3 nin0
  have f12 := f11.keep K6 nin0
  have f13 := f12.keep K10 nin0
  have f14 := q0.keep K3
  have f15 := f14.keep K6
  have f16 := f15.keep K10
  have f17 := q1.keep K3 nin0
  have f18 := f17.keep K6 nin0
  have f19 := f18.keep K10 nin0
  refine own_put X10 27 d23_24 (host := "") (Or.inl (ow hw 31 rfl)) Via.refl f13 f16 (Or.inr ⟨(ow hw 32 rfl), rfl, hnm⟩) (ow hw 7 rfl) (ty := .byte) (by decide) rfl rfl (om 0 rfl) rfl ?_
  intro T20 h20 X20 W20 K20 F20
  have f21 := Fld.other W20 f19 (Or.inr (slot_ne (Or.inr (ow hw 34 rfl)) (Or.inr (ow hw 32 rfl)) (by decide) (t := (.array .byte)) (t' := .byte) (by decide) (by decide)))
  refine og_aloadN X20 28 d23_27 rfl rfl rfl ?_
  refine og_aloadN X20 29 d23_28 rfl rfl rfl ?_
  refine og_iconst X20 30 (0 : Int32) d23_29 rfl rfl ?_
  refine og_iload X20 32 d23_30 rfl rfl ?_
  have f22 := q7.keep K3 nin0
  have f23 := f22.keep K6 nin0
  have f24 := f23.keep K10 nin0
  have f25 := f24.keep K20 (ninS (Ne.symm (own_neA f16 (ow hw 7 rfl) f24)) nin0)
  refine own_stat X20 35 (argsL := [(.ref d), (.int 0), (.int 11)]) (rest := [(.ref a)]) d23_32 (rs_cr11 l Z a0 hw n0 h20 hWd [] X20.old d kd (.int (StrChars.lo8 y0)) (.int (StrChars.lo8 y1)) (.int (StrChars.lo8 y2)) (.int (StrChars.lo8 y3)) (.int (StrChars.lo8 y4)) (.int (StrChars.lo8 y5)) (.int (StrChars.lo8 y6)) (.int (StrChars.lo8 y7)) (.int (StrChars.lo8 y8)) (.int (StrChars.lo8 y9)) (.int (StrChars.lo8 y10)) e11 e12 e13 e14 e15 f25 ) (ow hw 151 rfl) (ow hw 152 rfl) (ow hw 153 rfl) (ow hw 154 rfl) (by decide) (lenOf pd__28_5bBII_29_5bB rfl) rfl rfl rfl (W := 1) rfl (by decide) (by decide) (by decide) (by decide) all0 rfl ?_
  intro T26 h26 v26 X26 K26 hQ26
  obtain ⟨r26, kr26, rfl, ge_r26, f27⟩ := hQ26
  show OGo _ _ _ _ T26 (mkF m 35 #[.val (.ref a), .val (.ref b), .val .null, .val (.ref d), .val (.int 11)] [(.ref r26), (.ref a)])
  have f28 := f21.keep K26 nin0
  have f29 := f16.keep K20
  have f30 := f29.keep K26
  have f31 := F20.keep K26 nin0
  refine own_put X26 38 d23_35 (host := "") (Or.inl (ow hw 33 rfl)) Via.refl f28 f30 (Or.inr ⟨(ow hw 34 rfl), rfl, hnm⟩) (ow hw 7 rfl) (ty := (.array .byte)) (by decide) rfl rfl (om 0 rfl) rfl ?_
  intro T32 h32 X32 W32 K32 F32
  have f33 := Fld.other W32 f31 (Or.inr (slot_ne (Or.inr (ow hw 32 rfl)) (Or.inr (ow hw 34 rfl)) (by decide) (t := .byte) (t' := (.array .byte)) (by decide) (by decide)))
  refine og_goto X32 97 d23_38 (by decide) (by decide) ?_
  have f34 := f30.keep K32
  have f35 := f27.keep K32 (ninS (Nat.ne_of_gt (Nat.lt_of_lt_of_le (Nat.lt_of_lt_of_le q0.lt (Nat.le_trans (Nat.le_trans (Nat.le_trans K3.1 K6.1) K10.1) K20.1)) ge_r26)) nin0)
  refine own_retV X32 d23_97 hret (by decide) (by decide) ?_
  exact ⟨rfl, own_mkStr (cs := [y0, y1, y2, y3, y4, y5, y6, y7, y8, y9, y10]) (bs := [StrChars.lo8 y0, StrChars.lo8 y1, StrChars.lo8 y2, StrChars.lo8 y3, StrChars.lo8 y4, StrChars.lo8 y5, StrChars.lo8 y6, StrChars.lo8 y7, StrChars.lo8 y8, StrChars.lo8 y9, StrChars.lo8 y10]) (n := 11) f34 f33 F32 f35 rfl q8 rfl rfl (Nat.le_of_ble_eq_true rfl)⟩
theorem rs_is11 (l : Launch) (Z : State) (a0 : Array Value) (hw : ∀ d ∈ tables_1, d.before a0 Z = true) (n0 : Nat) (h0 : Heap) (hWd : OWorld Z a0) (wc : List Jvm.Cond) (O0 : Old Z n0 h0) (a : Addr) (y : Value) (z : Int32) (b : Addr) (d : Addr) (kd : ClassId) (y0 : Int32) (y1 : Int32) (y2 : Int32) (y3 : Int32) (y4 : Int32) (y5 : Int32) (y6 : Int32) (y7 : Int32) (y8 : Int32) (y9 : Int32) (y10 : Int32) (e11 : Value) (e12 : Value) (e13 : Value) (e14 : Value) (e15 : Value) (q0 : Exa Z h0 a "java/lang/String") (q1 : Fld Z h0 a "java/lang/String" "value" "[B" y) (q2 : Fld Z h0 a "java/lang/String" "coder" "B" (.int z)) (q3 : Exa Z h0 b "java/lang/StringBuilder") (q4 : Fld Z h0 b "java/lang/AbstractStringBuilder" "value" "[B" (.ref d)) (q5 : Fld Z h0 b "java/lang/AbstractStringBuilder" "coder" "B" (.int 0)) (q6 : Fld Z h0 b "java/lang/AbstractStringBuilder" "count" "I" (.int 11)) (q7 : Arv Z h0 d kd .byte (16 : Int32) [(.int (StrChars.lo8 y0)), (.int (StrChars.lo8 y1)), (.int (StrChars.lo8 y2)), (.int (StrChars.lo8 y3)), (.int (StrChars.lo8 y4)), (.int (StrChars.lo8 y5)), (.int (StrChars.lo8 y6)), (.int (StrChars.lo8 y7)), (.int (StrChars.lo8 y8)), (.int (StrChars.lo8 y9)), (.int (StrChars.lo8 y10)), e11, e12, e13, e14, e15] (.int 0)) (q8 : ∀ c ∈ [y0, y1, y2, y3, y4, y5, y6, y7, y8, y9, y10], ¬ c < 0 ∧ ¬ (255 : Int32) < c) (g0 : n0 ≤ a ∧ a < h0.size) :
    OMet l Z own_EL n0 (⟨"java/lang/String", "<init>", "(Ljava/lang/StringBuilder;)V"⟩ : MethodName) (Jvm.Cond.code (⟨"java/lang/String", "<init>", "(Ljava/lang/StringBuilder;)V"⟩ : MethodName) jdk_42_method_53_code 2 none :: wc) ({ frames := 4, cells := 1, slots := 11, locals := 87 } : Room) #[(.ref a), (.ref b)] h0 [a] (fun vq hq => vq = none ∧ OStr Z hq a [y0, y1, y2, y3, y4, y5, y6, y7, y8, y9, y10] hq.size) := by
  refine own_enter #[.val (.ref a), .val (.ref b)] pn_java_lang_String__init___Ljava_lang_StringBuilder__V (ef_rs_is11 a y z b d kd y0 y1 y2 y3 y4 y5 y6 y7 y8 y9 y10 e11 e12 e13 e14 e15) hWd.1 O0 (allS g0 all0) ?_
  intro p e s m below meth c T0 X0 hnm hret
  refine og_aloadN X0 1 d22_0 rfl rfl rfl ?_
  refine og_aloadN X0 2 d22_1 rfl rfl rfl ?_
  refine og_aconstNull X0 3 d22_2 rfl ?_
  refine own_spec X0 6 (a := a) (argsL := [(.ref b), .null]) (rest := []) d22_3 rfl (rs_iv11 l Z a0 hw n0 h0 hWd [] X0.old a y z b d kd y0 y1 y2 y3 y4 y5 y6 y7 y8 y9 y10 e11 e12 e13 e14 e15 q0 q1 q2 q3 q4 q5 q6 q7 q8 (own_svb X0 (om 0 rfl))) (ow hw 130 rfl) (ow hw 131 rfl) (ow hw 8 rfl) (ow hw 132 rfl) (by decide) (lenOf pd__28Ljava_2flang_2fAbstractStringBuilder_3bLjava_2flang_2fVoid_3b_29V rfl) rfl rfl rfl (W := 0) rfl (by decide) (by decide) (by decide) (by decide) (allS (om 0 rfl) all0) rfl ?_
  intro T1 h1 v1 X1 K1 hQ1
  obtain ⟨rfl, f2⟩ := hQ1
  show OGo _ _ _ _ T1 (mkF m 6 #[.val (.ref a), .val (.ref b)] [])
  refine own_retV X1 d22_6 hret (by decide) (by decide) ?_
  exact ⟨rfl, f2.top⟩
theorem rs_ts11 (l : Launch) (Z : State) (a0 : Array Value) (hw : ∀ d ∈ tables_1, d.before a0 Z = true) (n0 : Nat) (h0 : Heap) (hWd : OWorld Z a0) (wc : List Jvm.Cond) (O0 : Old Z n0 h0) (b : Addr) (d : Addr) (kd : ClassId) (y0 : Int32) (y1 : Int32) (y2 : Int32) (y3 : Int32) (y4 : Int32) (y5 : Int32) (y6 : Int32) (y7 : Int32) (y8 : Int32) (y9 : Int32) (y10 : Int32) (e11 : Value) (e12 : Value) (e13 : Value) (e14 : Value) (e15 : Value) (q0 : Exa Z h0 b "java/lang/StringBuilder") (q1 : Fld Z h0 b "java/lang/AbstractStringBuilder" "value" "[B" (.ref d)) (q2 : Fld Z h0 b "java/lang/AbstractStringBuilder" "coder" "B" (.int 0)) (q3 : Fld Z h0 b "java/lang/AbstractStringBuilder" "count" "I" (.int 11)) (q4 : Arv Z h0 d kd .byte (16 : Int32) [(.int (StrChars.lo8 y0)), (.int (StrChars.lo8 y1)), (.int (StrChars.lo8 y2)), (.int (StrChars.lo8 y3)), (.int (StrChars.lo8 y4)), (.int (StrChars.lo8 y5)), (.int (StrChars.lo8 y6)), (.int (StrChars.lo8 y7)), (.int (StrChars.lo8 y8)), (.int (StrChars.lo8 y9)), (.int (StrChars.lo8 y10)), e11, e12, e13, e14, e15] (.int 0)) (q5 : ∀ c ∈ [y0, y1, y2, y3, y4, y5, y6, y7, y8, y9, y10], ¬ c < 0 ∧ ¬ (255 : Int32) < c) :
    OMet l Z own_EL n0 (⟨"java/lang/StringBuilder", "toString", "()Ljava/lang/String;"⟩ : MethodName) (Jvm.Cond.code (⟨"java/lang/StringBuilder", "toString", "()Ljava/lang/String;"⟩ : MethodName) jdk_67_method_42_code 1 (some (.object "java/lang/String")) :: wc) ({ frames := 5, cells := 2, slots := 15, locals := 101 } : Room) #[(.ref b)] h0 [] (fun vq hq => ∃ (r : Addr), vq = some (.ref r) ∧ h0.size ≤ r ∧ OStr Z hq r [y0, y1, y2, y3, y4, y5, y6, y7, y8, y9, y10] hq.size) := by
  refine own_enter #[.val (.ref b)] pn_java_lang_StringBuilder_toString___Ljava_lang_String_ (ef_rs_ts11 b d kd y0 y1 y2 y3 y4 y5 y6 y7 y8 y9 y10 e11 e12 e13 e14 e15) hWd.1 O0 all0 ?_
  intro p e s m below meth c T0 X0 hnm hret
  refine own_new X0 3 d21_0 (ow hw 126 rfl) (ow hw 7 rfl) (ow hw 8 rfl) (by decide) (by decide) rfl ?_
  intro T1 h1 b1 X1 K1 G1 U1 E1 D1
  have f2 : Fld Z h1 b1 "java/lang/String" "coder" "B" (.int 0) := D1 (Or.inr (ow hw 32 rfl)) (ty := .byte) (by decide)
  have f3 : Fld Z h1 b1 "java/lang/String" "value" "[B" .null := D1 (Or.inr (ow hw 34 rfl)) (ty := (.array .byte)) (by decide)
  refine og_dup X1 4 d21_3 rfl rfl ?_
  refine og_aloadN X1 5 d21_4 rfl rfl rfl ?_
  have f4 := q0.keep K1
  have f5 := q1.keep K1 nin0
  have f6 := q2.keep K1 nin0
  have f7 := q3.keep K1 nin0
  have f8 := q4.keep K1 nin0
  refine own_spec X1 8 (a := b1) (argsL := [(.ref b)]) (rest := [(.ref b1)]) d21_5 rfl (rs_is11 l Z a0 hw n0 h1 hWd [] X1.old b1 .null (0 : Int32) b d kd y0 y1 y2 y3 y4 y5 y6 y7 y8 y9 y10 e11 e12 e13 e14 e15 E1 f3 f2 f4 f5 f6 f7 f8 q5 (own_svb X1 (om 0 rfl))) (ow hw 127 rfl) (ow hw 128 rfl) (ow hw 8 rfl) (ow hw 129 rfl) (by decide) (lenOf pd__28Ljava_2flang_2fStringBuilder_3b_29V rfl) rfl rfl rfl (W := 1) rfl (by decide) (by decide) (by decide) (by decide) (allS (om 0 rfl) all0) rfl ?_
  intro T9 h9 v9 X9 K9 hQ9
  obtain ⟨rfl, f10⟩ := hQ9
  show OGo _ _ _ _ T9 (mkF m 8 #[.val (.ref b)] [(.ref b1)])
  refine own_retA X9 d21_8 hret rfl rfl (by decide) (by decide) ?_
  exact ⟨b1, rfl, G1, f10.top⟩
theorem rs_crb12 (l : Launch) (Z : State) (a0 : Array Value) (hw : ∀ d ∈ tables_1, d.before a0 Z = true) (n0 : Nat) (h0 : Heap) (hWd : OWorld Z a0) (wc : List Jvm.Cond) (O0 : Old Z n0 h0) (b : Addr) (kb : ClassId) (e0 : Value) (e1 : Value) (e2 : Value) (e3 : Value) (e4 : Value) (e5 : Value) (e6 : Value) (e7 : Value) (e8 : Value) (e9 : Value) (e10 : Value) (e11 : Value) (e12 : Value) (e13 : Value) (e14 : Value) (e15 : Value) (q0 : Arv Z h0 b kb .byte (16 : Int32) [e0, e1, e2, e3, e4, e5, e6, e7, e8, e9, e10, e11, e12, e13, e14, e15] (.int 0)) :
    OMet l Z own_EL n0 (⟨"java/util/Arrays", "copyOfRangeByte", "([BII)[B"⟩ : MethodName) (Jvm.Cond.code (⟨"java/util/Arrays", "copyOfRangeByte", "([BII)[B"⟩ : MethodName) jdk_65_method_133_code 5 (some (.array .byte)) :: wc) ({ frames := 1, cells := 1, slots := 12, locals := 40 } : Room) #[(.ref b), (.int 0), (.int 12)] h0 [] (fun vq hq => ∃ (r : Addr) (kr : ClassId), vq = some (.ref r) ∧ h0.size ≤ r ∧ Arv Z hq r kr .byte (12 : Int32) [e0, e1, e2, e3, e4, e5, e6, e7, e8, e9, e10, e11] (.int 0)) := by
  refine own_enter #[.val (.ref b), .val (.int 0), .val (.int 12), .unset, .unset] pn_java_util_Arrays_copyOfRangeByte___BII__B (ef_rs_crb12 b kb e0 e1 e2 e3 e4 e5 e6 e7 e8 e9 e10 e11 e12 e13 e14 e15) hWd.1 O0 all0 ?_
  intro p e s m below meth c T0 X0 hnm hret
  refine og_iloadN X0 1 d29_0 rfl rfl ?_
  refine og_iloadN X0 2 d29_1 rfl rfl ?_
  refine own_stat X0 5 (argsL := [(.int 0), (.int 12)]) (rest := []) d29_2 (rm30 l Z a0 hw n0 h0 hWd [] X0.old (0 : Int32) (12 : Int32) (by decide) ) (ow hw 158 rfl) (ow hw 159 rfl) (ow hw 153 rfl) (ow hw 160 rfl) (by decide) (lenOf pd__28II_29V rfl) rfl rfl rfl (W := 0) rfl (by decide) (by decide) (by decide) (by decide) all0 rfl ?_
  intro T1 h1 v1 X1 K1 hQ1
  obtain rfl := hQ1
  show OGo _ _ _ _ T1 (mkF m 5 #[.val (.ref b), .val (.int 0), .val (.int 12), .unset, .unset] [])
  refine og_iloadN X1 6 d29_5 rfl rfl ?_
  refine og_iloadN X1 7 d29_6 rfl rfl ?_
  refine og_isub X1 8 d29_7 rfl ?_
  show OGo _ _ _ _ T1 (mkF m 8 #[.val (.ref b), .val (.int 0), .val (.int 12), .unset, .unset] [(.int 12)])
  refine og_istoreN X1 9 #[.val (.ref b), .val (.int 0), .val (.int 12), .val (.int 12), .unset] d29_8 rfl rfl ?_
  refine og_iloadN X1 10 d29_9 rfl rfl ?_
  refine own_arr X1 12 d29_10 (ow hw 24 rfl) (by decide) (cap := 12) (by decide) (by decide) (by decide) (by decide) rfl ?_
  intro T2 h2 b2 kb2 X2 K2 G2 U2 A2
  have f3 : Arv Z h2 b2 kb2 .byte (12 : Int32) [(.int 0), (.int 0), (.int 0), (.int 0), (.int 0), (.int 0), (.int 0), (.int 0), (.int 0), (.int 0), (.int 0), (.int 0)] (.int 0) := A2
  refine og_astore X2 14 #[.val (.ref b), .val (.int 0), .val (.int 12), .val (.int 12), .val (.ref b2)] d29_12 rfl rfl rfl ?_
  refine og_aloadN X2 15 d29_14 rfl rfl rfl ?_
  refine og_iloadN X2 16 d29_15 rfl rfl ?_
  refine og_aload X2 18 d29_16 rfl rfl rfl ?_
  refine og_iconst X2 19 (0 : Int32) d29_18 rfl rfl ?_
  refine og_aloadN X2 20 d29_19 rfl rfl rfl ?_
  have f4 := q0.keep K1 nin0
  have f5 := f4.keep K2 nin0
  refine own_len X2 21 d29_20 f5 rfl ?_
  refine og_iloadN X2 22 d29_21 rfl rfl ?_
  refine og_isub X2 23 d29_22 rfl ?_
  show OGo _ _ _ _ T2 (mkF m 23 #[.val (.ref b), .val (.int 0), .val (.int 12), .val (.int 12), .val (.ref b2)] [(.int 16), (.int 0), (.ref b2), (.int 0), (.ref b)])
  refine og_iloadN X2 24 d29_23 rfl rfl ?_
  refine own_stat X2 27 (argsL := [(.int 16), (.int 12)]) (rest := [(.int 0), (.ref b2), (.int 0), (.ref b)]) d29_24 (rm31 l Z a0 hw n0 h2 hWd [] X2.old (16 : Int32) (12 : Int32) (by decide) ) (ow hw 161 rfl) (ow hw 162 rfl) (ow hw 163 rfl) (ow hw 164 rfl) (by decide) (lenOf pd__28II_29I rfl) rfl rfl rfl (W := 4) rfl (by decide) (by decide) (by decide) (by decide) all0 rfl ?_
  intro T6 h6 v6 X6 K6 hQ6
  obtain rfl := hQ6
  show OGo _ _ _ _ T6 (mkF m 27 #[.val (.ref b), .val (.int 0), .val (.int 12), .val (.int 12), .val (.ref b2)] [(.int 12), (.int 0), (.ref b2), (.int 0), (.ref b)])
  have f7 := f5.keep K6 nin0
  have f8 := f3.keep K6 nin0
  refine own_cp X6 30 (us := [e0, e1, e2, e3, e4, e5, e6, e7, e8, e9, e10, e11]) (rest := []) d29_27 f7 f8 rfl (om 0 rfl) (ow hw 165 rfl) (ow hw 119 rfl) (ow hw 117 rfl) (ow hw 118 rfl) (by decide) (by decide) (by decide) (by decide) (by decide) rfl (Nat.le_of_ble_eq_true rfl) rfl (W := 0) rfl (by decide) (by decide) rfl ?_
  intro T9 h9 X9 K9 A9
  have f10 : Arv Z h9 b2 kb2 .byte (12 : Int32) [e0, e1, e2, e3, e4, e5, e6, e7, e8, e9, e10, e11] (.int 0) := A9
  show OGo _ _ _ _ T9 (mkF m 30 #[.val (.ref b), .val (.int 0), .val (.int 12), .val (.int 12), .val (.ref b2)] [])
  refine og_aload X9 32 d29_30 rfl rfl rfl ?_
  refine own_retA X9 d29_32 hret rfl rfl (by decide) (by decide) ?_
  exact ⟨b2, kb2, rfl, (Nat.le_trans K1.1 G2), f10⟩
theorem rs_cr12 (l : Launch) (Z : State) (a0 : Array Value) (hw : ∀ d ∈ tables_1, d.before a0 Z = true) (n0 : Nat) (h0 : Heap) (hWd : OWorld Z a0) (wc : List Jvm.Cond) (O0 : Old Z n0 h0) (b : Addr) (kb : ClassId) (e0 : Value) (e1 : Value) (e2 : Value) (e3 : Value) (e4 : Value) (e5 : Value) (e6 : Value) (e7 : Value) (e8 : Value) (e9 : Value) (e10 : Value) (e11 : Value) (e12 : Value) (e13 : Value) (e14 : Value) (e15 : Value) (q0 : Arv Z h0 b kb .byte (16 : Int32) [e0, e1, e2, e3, e4, e5, e6, e7, e8, e9, e10, e11, e12, e13, e14, e15] (.int 0)) :
    OMet l Z own_EL n0 (⟨"java/util/Arrays", "copyOfRange", "([BII)[B"⟩ : MethodName) (Jvm.Cond.code (⟨"java/util/Arrays", "copyOfRange", "([BII)[B"⟩ : MethodName) jdk_65_method_132_code 3 (some (.array .byte)) :: wc) ({ frames := 2, cells := 1, slots := 12, locals := 56 } : Room) #[(.ref b), (.int 0), (.int 12)] h0 [] (fun vq hq => ∃ (r : Addr) (kr : ClassId), vq = some (.ref r) ∧ h0.size ≤ r ∧ Arv Z hq r kr .byte (12 : Int32) [e0, e1, e2, e3, e4, e5, e6, e7, e8, e9, e10, e11] (.int 0)) := by
  refine own_enter #[.val (.ref b), .val (.int 0), .val (.int 12)] pn_java_util_Arrays_copyOfRange___BII__B (ef_rs_cr12 b kb e0 e1 e2 e3 e4 e5 e6 e7 e8 e9 e10 e11 e12 e13 e14 e15) hWd.1 O0 all0 ?_
  intro p e s m below meth c T0 X0 hnm hret
  refine og_iloadN X0 1 d28_0 rfl rfl ?_
  refine og_ifN X0 4 d28_1 (XT.i0_ne_f (by decide)) rfl ?_
  refine og_iloadN X0 5 d28_4 rfl rfl ?_
  refine og_aloadN X0 6 d28_5 rfl rfl rfl ?_
  refine own_len X0 7 d28_6 q0 rfl ?_
  refine og_icmpN X0 10 d28_7 (XT.ii_eq_f (by decide)) rfl ?_
  refine og_aloadN X0 11 d28_10 rfl rfl rfl ?_
  refine og_iloadN X0 12 d28_11 rfl rfl ?_
  refine og_iloadN X0 13 d28_12 rfl rfl ?_
  refine own_stat X0 16 (argsL := [(.ref b), (.int 0), (.int 12)]) (rest := []) d28_13 (rs_crb12 l Z a0 hw n0 h0 hWd [] X0.old b kb e0 e1 e2 e3 e4 e5 e6 e7 e8 e9 e10 e11 e12 e13 e14 e15 q0 ) (ow hw 155 rfl) (ow hw 156 rfl) (ow hw 153 rfl) (ow hw 157 rfl) (by decide) (lenOf pd__28_5bBII_29_5bB rfl) rfl rfl rfl (W := 0) rfl (by decide) (by decide) (by decide) (by decide) all0 rfl ?_
  intro T1 h1 v1 X1 K1 hQ1
  obtain ⟨r1, kr1, rfl, ge_r1, f2⟩ := hQ1
  show OGo _ _ _ _ T1 (mkF m 16 #[.val (.ref b), .val (.int 0), .val (.int 12)] [(.ref r1)])
  refine own_retA X1 d28_16 hret rfl rfl (by decide) (by decide) ?_
  exact ⟨r1, kr1, rfl, ge_r1, f2⟩
theorem rs_iv12 (l : Launch) (Z : State) (a0 : Array Value) (hw : ∀ d ∈ tables_1, d.before a0 Z = true) (n0 : Nat) (h0 : Heap) (hWd : OWorld Z a0) (wc : List Jvm.Cond) (O0 : Old Z n0 h0) (a : Addr) (y : Value) (z : Int32) (b : Addr) (d : Addr) (kd : ClassId) (y0 : Int32) (y1 : Int32) (y2 : Int32) (y3 : Int32) (y4 : Int32) (y5 : Int32) (y6 : Int32) (y7 : Int32) (y8 : Int32) (y9 : Int32) (y10 : Int32) (y11 : Int32) (e12 : Value) (e13 : Value) (e14 : Value) (e15 : Value) (q0 : Exa Z h0 a "java/lang/String") (q1 : Fld Z h0 a "java/lang/String" "value" "[B" y) (q2 : Fld Z h0 a "java/lang/String" "coder" "B" (.int z)) (q3 : Exa Z h0 b "java/lang/StringBuilder") (q4 : Fld Z h0 b "java/lang/AbstractStringBuilder" "value" "[B" (.ref d)) (q5 : Fld Z h0 b "java/lang/AbstractStringBuilder" "coder" "B" (.int 0)) (q6 : Fld Z h0 b "java/lang/AbstractStringBuilder" "count" "I" (.int 12)) (q7 : Arv Z h0 d kd .byte (16 : Int32) [(.int (StrChars.lo8 y0)), (.int (StrChars.lo8 y1)), (.int (StrChars.lo8 y2)), (.int (StrChars.lo8 y3)), (.int (StrChars.lo8 y4)), (.int (StrChars.lo8 y5)), (.int (StrChars.lo8 y6)), (.int (StrChars.lo8 y7)), (.int (StrChars.lo8 y8)), (.int (StrChars.lo8 y9)), (.int (StrChars.lo8 y10)), (.int (StrChars.lo8 y11)), e12, e13, e14, e15] (.int 0)) (q8 : ∀ c ∈ [y0, y1, y2, y3, y4, y5, y6, y7, y8, y9, y10, y11], ¬ c < 0 ∧ ¬ (255 : Int32) < c) (g0 : n0 ≤ a ∧ a < h0.size) :
    OMet l Z own_EL n0 (⟨"java/lang/String", "<init>", "(Ljava/lang/AbstractStringBuilder;Ljava/lang/Void;)V"⟩ : MethodName) (Jvm.Cond.code (⟨"java/lang/String", "<init>", "(Ljava/lang/AbstractStringBuilder;Ljava/lang/Void;)V"⟩ : MethodName) jdk_42_method_150_code 5 none :: wc) ({ frames := 3, cells := 1, slots := 12, locals := 71 } : Room) #[(.ref a), (.ref b), .null] h0 [a] (fun vq hq => vq = none ∧ OStr Z hq a [y0, y1, y2, y3, y4, y5, y6, y7, y8, y9, y10, y11] hq.size) := by
  refine own_enter #[.val (.ref a), .val (.ref b), .val .null, .unset, .unset] pn_java_lang_String__init___Ljava_lang_AbstractStringBuilder_Ljava_lang_Void__V (ef_rs_iv12 a y z b d kd y0 y1 y2 y3 y4 y5 y6 y7 y8 y9 y10 y11 e12 e13 e14 e15) hWd.1 O0 (allS g0 all0) ?_
  intro p e s m below meth c T0 X0 hnm hret
  refine og_aloadN X0 1 d23_0 rfl rfl rfl ?_
  refine own_obj0 X0 4 (a := a) d23_1 (ow hw 16 rfl) (ow hw 17 rfl) (ow hw 18 rfl) rfl (W := 0) rfl (by decide) (by decide) rfl ?_
  intro T1 X2
  refine og_aloadN X2 5 d23_4 rfl rfl rfl ?_
  refine own_virt X2 8 (a := b) (argsL := []) (rest := []) d23_5 q3 (fun _ hZ => notFace_of_selects (args := #[]) (mvT hZ (ow hw 136 rfl))) (rm24 l Z a0 hw n0 h0 hWd [] X2.old b d q4 ) (ow hw 133 rfl) (ow hw 134 rfl) (ow hw 136 rfl) (ow hw 135 rfl) (ow hw 64 rfl) (ow hw 137 rfl) (by decide) (lenOf pd__28_29_5bB rfl) rfl rfl rfl (W := 0) rfl (by decide) (by decide) (by decide) (by decide) all0 rfl ?_
  intro T3 h3 v3 X3 K3 hQ3
  obtain rfl := hQ3
  show OGo _ _ _ _ T3 (mkF m 8 #[.val (.ref a), .val (.ref b), .val .null, .unset, .unset] [(.ref d)])
  refine og_astoreN X3 9 #[.val (.ref a), .val (.ref b), .val .null, .val (.ref d), .unset] d23_8 rfl rfl rfl ?_
  refine og_aloadN X3 10 d23_9 rfl rfl rfl ?_
  have f4 := q3.keep K3
  have f5 := q6.keep K3 nin0
  refine own_virt X3 13 (a := b) (argsL := []) (rest := []) d23_10 f4 (fun _ hZ => own_nfz (args := #[]) (y := (⟨"java/lang/AbstractStringBuilder", "length", "()I"⟩ : MethodName)) (mvT hZ (ow hw 98 rfl)) rfl) (rm25 l Z a0 hw n0 h3 hWd [] X3.old b (12 : Int32) f4 f5 ) (ow hw 138 rfl) (ow hw 139 rfl) (ow hw 141 rfl) (ow hw 142 rfl) (ow hw 56 rfl) (ow hw 143 rfl) (by decide) (lenOf pd__28_29I rfl) rfl rfl rfl (W := 0) rfl (by decide) (by decide) (by decide) (by decide) all0 rfl ?_
  intro T6 h6 v6 X6 K6 hQ6
  obtain rfl := hQ6
  show OGo _ _ _ _ T6 (mkF m 13 #[.val (.ref a), .val (.ref b), .val .null, .val (.ref d), .unset] [(.int 12)])
  refine og_istore X6 15 #[.val (.ref a), .val (.ref b), .val .null, .val (.ref d), .val (.int 12)] d23_13 rfl rfl ?_
  refine og_aloadN X6 16 d23_15 rfl rfl rfl ?_
  have f7 := f4.keep K6
  have f8 := q5.keep K3 nin0
  have f9 := f8.keep K6 nin0
  refine own_virt X6 19 (a := b) (argsL := []) (rest := []) d23_16 f7 (fun _ hZ => notFace_of_selects (args := #[]) (mvT hZ (ow hw 149 rfl))) (rm27 l Z a0 hw n0 h6 hWd [] X6.old b f9 ) (ow hw 146 rfl) (ow hw 147 rfl) (ow hw 149 rfl) (ow hw 148 rfl) (ow hw 64 rfl) (ow hw 150 rfl) (by decide) (lenOf pd__28_29Z rfl) rfl rfl rfl (W := 0) rfl (by decide) (by decide) (by decide) (by decide) all0 rfl ?_
  intro T10 h10 v10 X10 K10 hQ10
  obtain rfl := hQ10
  show OGo _ _ _ _ T10 (mkF m 19 #[.val (.ref a), .val (.ref b), .val .null, .val (.ref d), .val (.int 12)] [(.int 1)])
  refine og_ifN X10 22 d23_19 (XT.i0_eq_f (by decide)) rfl ?_
  refine og_aloadN X10 23 d23_22 rfl rfl rfl ?_
  refine og_iconst X10 24 (0 : Int32) d23_23 rfl rfl ?_
  have f11 := q2.keep K3 nin0
  have f12 := f11.keep K6 nin0
  have f13 := f12.keep K10 nin0
  have f14 := q0.keep K3
  have f15 := f14.keep K6
  have f16 := f15.keep K10
  have f17 := q1.keep K3 nin0
  have f18 := f17.keep K6 nin0
  have f19 := f18.keep K10 nin0
  refine own_put X10 27 d23_24 (host := "") (Or.inl (ow hw 31 rfl)) Via.refl f13 f16 (Or.inr ⟨(ow hw 32 rfl), rfl, hnm⟩) (ow hw 7 rfl) (ty := .byte) (by decide) rfl rfl (om 0 rfl) rfl ?_
  intro T20 h20 X20 W20 K20 F20
  have f21 := Fld.other W20 f19 (Or.inr (slot_ne (Or.inr (ow hw 34 rfl)) (Or.inr (ow hw 32 rfl)) (by decide) (t := (.array .byte)) (t' := .byte) (by decide) (by decide)))
  refine og_aloadN X20 28 d23_27 rfl rfl rfl ?_
  refine og_aloadN X20 29 d23_28 rfl rfl rfl ?_
  refine og_iconst X20 30 (0 : Int32) d23_29 rfl rfl ?_
  refine og_iload X20 32 d23_30 rfl rfl ?_
  have f22 := q7.keep K3 nin0
  have f23 := f22.keep K6 nin0
  have f24 := f23.keep K10 nin0
  have f25 := f24.keep K20 (ninS (Ne.symm (own_neA f16 (ow hw 7 rfl) f24)) nin0)
  refine own_stat X20 35 (argsL := [(.ref d), (.int 0), (.int 12)]) (rest := [(.ref a)]) d23_32 (rs_cr12 l Z a0 hw n0 h20 hWd [] X20.old d kd (.int (StrChars.lo8 y0)) (.int (StrChars.lo8 y1)) (.int (StrChars.lo8 y2)) (.int (StrChars.lo8 y3)) (.int (StrChars.lo8 y4)) (.int (StrChars.lo8 y5)) (.int (StrChars.lo8 y6)) (.int (StrChars.lo8 y7)) (.int (StrChars.lo8 y8)) (.int (StrChars.lo8 y9)) (.int (StrChars.lo8 y10)) (.int (StrChars.lo8 y11)) e12 e13 e14 e15 f25 ) (ow hw 151 rfl) (ow hw 152 rfl) (ow hw 153 rfl) (ow hw 154 rfl) (by decide) (lenOf pd__28_5bBII_29_5bB rfl) rfl rfl rfl (W := 1) rfl (by decide) (by decide) (by decide) (by decide) all0 rfl ?_
  intro T26 h26 v26 X26 K26 hQ26
  obtain ⟨r26, kr26, rfl, ge_r26, f27⟩ := hQ26
  show OGo _ _ _ _ T26 (mkF m 35 #[.val (.ref a), .val (.ref b), .val .null, .val (.ref d), .val (.int 12)] [(.ref r26), (.ref a)])
  have f28 := f21.keep K26 nin0
  have f29 := f16.keep K20
  have f30 := f29.keep K26
  have f31 := F20.keep K26 nin0
  refine own_put X26 38 d23_35 (host := "") (Or.inl (ow hw 33 rfl)) Via.refl f28 f30 (Or.inr ⟨(ow hw 34 rfl), rfl, hnm⟩) (ow hw 7 rfl) (ty := (.array .byte)) (by decide) rfl rfl (om 0 rfl) rfl ?_
  intro T32 h32 X32 W32 K32 F32
  have f33 := Fld.other W32 f31 (Or.inr (slot_ne (Or.inr (ow hw 32 rfl)) (Or.inr (ow hw 34 rfl)) (by decide) (t := .byte) (t' := (.array .byte)) (by decide) (by decide)))
  refine og_goto X32 97 d23_38 (by decide) (by decide) ?_
  have f34 := f30.keep K32
  have f35 := f27.keep K32 (ninS (Nat.ne_of_gt (Nat.lt_of_lt_of_le (Nat.lt_of_lt_of_le q0.lt (Nat.le_trans (Nat.le_trans (Nat.le_trans K3.1 K6.1) K10.1) K20.1)) ge_r26)) nin0)
  refine own_retV X32 d23_97 hret (by decide) (by decide) ?_
  exact ⟨rfl, own_mkStr (cs := [y0, y1, y2, y3, y4, y5, y6, y7, y8, y9, y10, y11]) (bs := [StrChars.lo8 y0, StrChars.lo8 y1, StrChars.lo8 y2, StrChars.lo8 y3, StrChars.lo8 y4, StrChars.lo8 y5, StrChars.lo8 y6, StrChars.lo8 y7, StrChars.lo8 y8, StrChars.lo8 y9, StrChars.lo8 y10, StrChars.lo8 y11]) (n := 12) f34 f33 F32 f35 rfl q8 rfl rfl (Nat.le_of_ble_eq_true rfl)⟩
theorem rs_is12 (l : Launch) (Z : State) (a0 : Array Value) (hw : ∀ d ∈ tables_1, d.before a0 Z = true) (n0 : Nat) (h0 : Heap) (hWd : OWorld Z a0) (wc : List Jvm.Cond) (O0 : Old Z n0 h0) (a : Addr) (y : Value) (z : Int32) (b : Addr) (d : Addr) (kd : ClassId) (y0 : Int32) (y1 : Int32) (y2 : Int32) (y3 : Int32) (y4 : Int32) (y5 : Int32) (y6 : Int32) (y7 : Int32) (y8 : Int32) (y9 : Int32) (y10 : Int32) (y11 : Int32) (e12 : Value) (e13 : Value) (e14 : Value) (e15 : Value) (q0 : Exa Z h0 a "java/lang/String") (q1 : Fld Z h0 a "java/lang/String" "value" "[B" y) (q2 : Fld Z h0 a "java/lang/String" "coder" "B" (.int z)) (q3 : Exa Z h0 b "java/lang/StringBuilder") (q4 : Fld Z h0 b "java/lang/AbstractStringBuilder" "value" "[B" (.ref d)) (q5 : Fld Z h0 b "java/lang/AbstractStringBuilder" "coder" "B" (.int 0)) (q6 : Fld Z h0 b "java/lang/AbstractStringBuilder" "count" "I" (.int 12)) (q7 : Arv Z h0 d kd .byte (16 : Int32) [(.int (StrChars.lo8 y0)), (.int (StrChars.lo8 y1)), (.int (StrChars.lo8 y2)), (.int (StrChars.lo8 y3)), (.int (StrChars.lo8 y4)), (.int (StrChars.lo8 y5)), (.int (StrChars.lo8 y6)), (.int (StrChars.lo8 y7)), (.int (StrChars.lo8 y8)), (.int (StrChars.lo8 y9)), (.int (StrChars.lo8 y10)), (.int (StrChars.lo8 y11)), e12, e13, e14, e15] (.int 0)) (q8 : ∀ c ∈ [y0, y1, y2, y3, y4, y5, y6, y7, y8, y9, y10, y11], ¬ c < 0 ∧ ¬ (255 : Int32) < c) (g0 : n0 ≤ a ∧ a < h0.size) :
    OMet l Z own_EL n0 (⟨"java/lang/String", "<init>", "(Ljava/lang/StringBuilder;)V"⟩ : MethodName) (Jvm.Cond.code (⟨"java/lang/String", "<init>", "(Ljava/lang/StringBuilder;)V"⟩ : MethodName) jdk_42_method_53_code 2 none :: wc) ({ frames := 4, cells := 1, slots := 12, locals := 87 } : Room) #[(.ref a), (.ref b)] h0 [a] (fun vq hq => vq = none ∧ OStr Z hq a [y0, y1, y2, y3, y4, y5, y6, y7, y8, y9, y10, y11] hq.size) := by
  refine own_enter #[.val (.ref a), .val (.ref b)] pn_java_lang_String__init___Ljava_lang_StringBuilder__V (ef_rs_is12 a y z b d kd y0 y1 y2 y3 y4 y5 y6 y7 y8 y9 y10 y11 e12 e13 e14 e15) hWd.1 O0 (allS g0 all0) ?_
  intro p e s m below meth c T0 X0 hnm hret
  refine og_aloadN X0 1 d22_0 rfl rfl rfl ?_
  refine og_aloadN X0 2 d22_1 rfl rfl rfl ?_
  refine og_aconstNull X0 3 d22_2 rfl ?_
  refine own_spec X0 6 (a := a) (argsL := [(.ref b), .null]) (rest := []) d22_3 rfl (rs_iv12 l Z a0 hw n0 h0 hWd [] X0.old a y z b d kd y0 y1 y2 y3 y4 y5 y6 y7 y8 y9 y10 y11 e12 e13 e14 e15 q0 q1 q2 q3 q4 q5 q6 q7 q8 (own_svb X0 (om 0 rfl))) (ow hw 130 rfl) (ow hw 131 rfl) (ow hw 8 rfl) (ow hw 132 rfl) (by decide) (lenOf pd__28Ljava_2flang_2fAbstractStringBuilder_3bLjava_2flang_2fVoid_3b_29V rfl) rfl rfl rfl (W := 0) rfl (by decide) (by decide) (by decide) (by decide) (allS (om 0 rfl) all0) rfl ?_
  intro T1 h1 v1 X1 K1 hQ1
  obtain ⟨rfl, f2⟩ := hQ1
  show OGo _ _ _ _ T1 (mkF m 6 #[.val (.ref a), .val (.ref b)] [])
  refine own_retV X1 d22_6 hret (by decide) (by decide) ?_
  exact ⟨rfl, f2.top⟩
theorem rs_ts12 (l : Launch) (Z : State) (a0 : Array Value) (hw : ∀ d ∈ tables_1, d.before a0 Z = true) (n0 : Nat) (h0 : Heap) (hWd : OWorld Z a0) (wc : List Jvm.Cond) (O0 : Old Z n0 h0) (b : Addr) (d : Addr) (kd : ClassId) (y0 : Int32) (y1 : Int32) (y2 : Int32) (y3 : Int32) (y4 : Int32) (y5 : Int32) (y6 : Int32) (y7 : Int32) (y8 : Int32) (y9 : Int32) (y10 : Int32) (y11 : Int32) (e12 : Value) (e13 : Value) (e14 : Value) (e15 : Value) (q0 : Exa Z h0 b "java/lang/StringBuilder") (q1 : Fld Z h0 b "java/lang/AbstractStringBuilder" "value" "[B" (.ref d)) (q2 : Fld Z h0 b "java/lang/AbstractStringBuilder" "coder" "B" (.int 0)) (q3 : Fld Z h0 b "java/lang/AbstractStringBuilder" "count" "I" (.int 12)) (q4 : Arv Z h0 d kd .byte (16 : Int32) [(.int (StrChars.lo8 y0)), (.int (StrChars.lo8 y1)), (.int (StrChars.lo8 y2)), (.int (StrChars.lo8 y3)), (.int (StrChars.lo8 y4)), (.int (StrChars.lo8 y5)), (.int (StrChars.lo8 y6)), (.int (StrChars.lo8 y7)), (.int (StrChars.lo8 y8)), (.int (StrChars.lo8 y9)), (.int (StrChars.lo8 y10)), (.int (StrChars.lo8 y11)), e12, e13, e14, e15] (.int 0)) (q5 : ∀ c ∈ [y0, y1, y2, y3, y4, y5, y6, y7, y8, y9, y10, y11], ¬ c < 0 ∧ ¬ (255 : Int32) < c) :
    OMet l Z own_EL n0 (⟨"java/lang/StringBuilder", "toString", "()Ljava/lang/String;"⟩ : MethodName) (Jvm.Cond.code (⟨"java/lang/StringBuilder", "toString", "()Ljava/lang/String;"⟩ : MethodName) jdk_67_method_42_code 1 (some (.object "java/lang/String")) :: wc) ({ frames := 5, cells := 2, slots := 16, locals := 101 } : Room) #[(.ref b)] h0 [] (fun vq hq => ∃ (r : Addr), vq = some (.ref r) ∧ h0.size ≤ r ∧ OStr Z hq r [y0, y1, y2, y3, y4, y5, y6, y7, y8, y9, y10, y11] hq.size) := by
  refine own_enter #[.val (.ref b)] pn_java_lang_StringBuilder_toString___Ljava_lang_String_ (ef_rs_ts12 b d kd y0 y1 y2 y3 y4 y5 y6 y7 y8 y9 y10 y11 e12 e13 e14 e15) hWd.1 O0 all0 ?_
  intro p e s m below meth c T0 X0 hnm hret
  refine own_new X0 3 d21_0 (ow hw 126 rfl) (ow hw 7 rfl) (ow hw 8 rfl) (by decide) (by decide) rfl ?_
  intro T1 h1 b1 X1 K1 G1 U1 E1 D1
  have f2 : Fld Z h1 b1 "java/lang/String" "coder" "B" (.int 0) := D1 (Or.inr (ow hw 32 rfl)) (ty := .byte) (by decide)
  have f3 : Fld Z h1 b1 "java/lang/String" "value" "[B" .null := D1 (Or.inr (ow hw 34 rfl)) (ty := (.array .byte)) (by decide)
  refine og_dup X1 4 d21_3 rfl rfl ?_
  refine og_aloadN X1 5 d21_4 rfl rfl rfl ?_
  have f4 := q0.keep K1
  have f5 := q1.keep K1 nin0
  have f6 := q2.keep K1 nin0
  have f7 := q3.keep K1 nin0
  have f8 := q4.keep K1 nin0
  refine own_spec X1 8 (a := b1) (argsL := [(.ref b)]) (rest := [(.ref b1)]) d21_5 rfl (rs_is12 l Z a0 hw n0 h1 hWd [] X1.old b1 .null (0 : Int32) b d kd y0 y1 y2 y3 y4 y5 y6 y7 y8 y9 y10 y11 e12 e13 e14 e15 E1 f3 f2 f4 f5 f6 f7 f8 q5 (own_svb X1 (om 0 rfl))) (ow hw 127 rfl) (ow hw 128 rfl) (ow hw 8 rfl) (ow hw 129 rfl) (by decide) (lenOf pd__28Ljava_2flang_2fStringBuilder_3b_29V rfl) rfl rfl rfl (W := 1) rfl (by decide) (by decide) (by decide) (by decide) (allS (om 0 rfl) all0) rfl ?_
  intro T9 h9 v9 X9 K9 hQ9
  obtain ⟨rfl, f10⟩ := hQ9
  show OGo _ _ _ _ T9 (mkF m 8 #[.val (.ref b)] [(.ref b1)])
  refine own_retA X9 d21_8 hret rfl rfl (by decide) (by decide) ?_
  exact ⟨b1, rfl, G1, f10.top⟩
theorem rs_crb13 (l : Launch) (Z : State) (a0 : Array Value) (hw : ∀ d ∈ tables_1, d.before a0 Z = true) (n0 : Nat) (h0 : Heap) (hWd : OWorld Z a0) (wc : List Jvm.Cond) (O0 : Old Z n0 h0) (b : Addr) (kb : ClassId) (e0 : Value) (e1 : Value) (e2 : Value) (e3 : Value) (e4 : Value) (e5 : Value) (e6 : Value) (e7 : Value) (e8 : Value) (e9 : Value) (e10 : Value) (e11 : Value) (e12 : Value) (e13 : Value) (e14 : Value) (e15 : Value) (q0 : Arv Z h0 b kb .byte (16 : Int32) [e0, e1, e2, e3, e4, e5, e6, e7, e8, e9, e10, e11, e12, e13, e14, e15] (.int 0)) :
    OMet l Z own_EL n0 (⟨"java/util/Arrays", "copyOfRangeByte", "([BII)[B"⟩ : MethodName) (Jvm.Cond.code (⟨"java/util/Arrays", "copyOfRangeByte", "([BII)[B"⟩ : MethodName) jdk_65_method_133_code 5 (some (.array .byte)) :: wc) ({ frames := 1, cells := 1, slots := 13, locals := 40 } : Room) #[(.ref b), (.int 0), (.int 13)] h0 [] (fun vq hq => ∃ (r : Addr) (kr : ClassId), vq = some (.ref r) ∧ h0.size ≤ r ∧ Arv Z hq r kr .byte (13 : Int32) [e0, e1, e2, e3, e4, e5, e6, e7, e8, e9, e10, e11, e12] (.int 0)) := by
  refine own_enter #[.val (.ref b), .val (.int 0), .val (.int 13), .unset, .unset] pn_java_util_Arrays_copyOfRangeByte___BII__B (ef_rs_crb13 b kb e0 e1 e2 e3 e4 e5 e6 e7 e8 e9 e10 e11 e12 e13 e14 e15) hWd.1 O0 all0 ?_
  intro p e s m below meth c T0 X0 hnm hret
  refine og_iloadN X0 1 d29_0 rfl rfl ?_
  refine og_iloadN X0 2 d29_1 rfl rfl ?_
  refine own_stat X0 5 (argsL := [(.int 0), (.int 13)]) (rest := []) d29_2 (rm30 l Z a0 hw n0 h0 hWd [] X0.old (0 : Int32) (13 : Int32) (by decide) ) (ow hw 158 rfl) (ow hw 159 rfl) (ow hw 153 rfl) (ow hw 160 rfl) (by decide) (lenOf pd__28II_29V rfl) rfl rfl rfl (W := 0) rfl (by decide) (by decide) (by decide) (by decide) all0 rfl ?_
  intro T1 h1 v1 X1 K1 hQ1
  obtain rfl := hQ1
  show OGo _ _ _ _ T1 (mkF m 5 #[.val (.ref b), .val (.int 0), .val (.int 13), .unset, .unset] [])
  refine og_iloadN X1 6 d29_5 rfl rfl ?_
  refine og_iloadN X1 7 d29_6 rfl rfl ?_
  refine og_isub X1 8 d29_7 rfl ?_
  show OGo _ _ _ _ T1 (mkF m 8 #[.val (.ref b), .val (.int 0), .val (.int 13), .unset, .unset] [(.int 13)])
  refine og_istoreN X1 9 #[.val (.ref b), .val (.int 0), .val (.int 13), .val (.int 13), .unset] d29_8 rfl rfl ?_
  refine og_iloadN X1 10 d29_9 rfl rfl ?_
  refine own_arr X1 12 d29_10 (ow hw 24 rfl) (by decide) (cap := 13) (by decide) (by decide) (by decide) (by decide) rfl ?_
  intro T2 h2 b2 kb2 X2 K2 G2 U2 A2
  have f3 : Arv Z h2 b2 kb2 .byte (13 : Int32) [(.int 0), (.int 0), (.int 0), (.int 0), (.int 0), (.int 0), (.int 0), (.int 0), (.int 0), (.int 0), (.int 0), (.int 0), (.int 0)] (.int 0) := A2
  refine og_astore X2 14 #[.val (.ref b), .val (.int 0), .val (.int 13), .val (.int 13), .val (.ref b2)] d29_12 rfl rfl rfl ?_
  refine og_aloadN X2 15 d29_14 rfl rfl rfl ?_
  refine og_iloadN X2 16 d29_15 rfl rfl ?_
  refine og_aload X2 18 d29_16 rfl rfl rfl ?_
  refine og_iconst X2 19 (0 : Int32) d29_18 rfl rfl ?_
  refine og_aloadN X2 20 d29_19 rfl rfl rfl ?_
  have f4 := q0.keep K1 nin0
  have f5 := f4.keep K2 nin0
  refine own_len X2 21 d29_20 f5 rfl ?_
  refine og_iloadN X2 22 d29_21 rfl rfl ?_
  refine og_isub X2 23 d29_22 rfl ?_
  show OGo _ _ _ _ T2 (mkF m 23 #[.val (.ref b), .val (.int 0), .val (.int 13), .val (.int 13), .val (.ref b2)] [(.int 16), (.int 0), (.ref b2), (.int 0), (.ref b)])
  refine og_iloadN X2 24 d29_23 rfl rfl ?_
  refine own_stat X2 27 (argsL := [(.int 16), (.int 13)]) (rest := [(.int 0), (.ref b2), (.int 0), (.ref b)]) d29_24 (rm31 l Z a0 hw n0 h2 hWd [] X2.old (16 : Int32) (13 : Int32) (by decide) ) (ow hw 161 rfl) (ow hw 162 rfl) (ow hw 163 rfl) (ow hw 164 rfl) (by decide) (lenOf pd__28II_29I rfl) rfl rfl rfl (W := 4) rfl (by decide) (by decide) (by decide) (by decide) all0 rfl ?_
  intro T6 h6 v6 X6 K6 hQ6
  obtain rfl := hQ6
  show OGo _ _ _ _ T6 (mkF m 27 #[.val (.ref b), .val (.int 0), .val (.int 13), .val (.int 13), .val (.ref b2)] [(.int 13), (.int 0), (.ref b2), (.int 0), (.ref b)])
  have f7 := f5.keep K6 nin0
  have f8 := f3.keep K6 nin0
  refine own_cp X6 30 (us := [e0, e1, e2, e3, e4, e5, e6, e7, e8, e9, e10, e11, e12]) (rest := []) d29_27 f7 f8 rfl (om 0 rfl) (ow hw 165 rfl) (ow hw 119 rfl) (ow hw 117 rfl) (ow hw 118 rfl) (by decide) (by decide) (by decide) (by decide) (by decide) rfl (Nat.le_of_ble_eq_true rfl) rfl (W := 0) rfl (by decide) (by decide) rfl ?_
  intro T9 h9 X9 K9 A9
  have f10 : Arv Z h9 b2 kb2 .byte (13 : Int32) [e0, e1, e2, e3, e4, e5, e6, e7, e8, e9, e10, e11, e12] (.int 0) := A9
  show OGo _ _ _ _ T9 (mkF m 30 #[.val (.ref b), .val (.int 0), .val (.int 13), .val (.int 13), .val (.ref b2)] [])
  refine og_aload X9 32 d29_30 rfl rfl rfl ?_
  refine own_retA X9 d29_32 hret rfl rfl (by decide) (by decide) ?_
  exact ⟨b2, kb2, rfl, (Nat.le_trans K1.1 G2), f10⟩
theorem rs_cr13 (l : Launch) (Z : State) (a0 : Array Value) (hw : ∀ d ∈ tables_1, d.before a0 Z = true) (n0 : Nat) (h0 : Heap) (hWd : OWorld Z a0) (wc : List Jvm.Cond) (O0 : Old Z n0 h0) (b : Addr) (kb : ClassId) (e0 : Value) (e1 : Value) (e2 : Value) (e3 : Value) (e4 : Value) (e5 : Value) (e6 : Value) (e7 : Value) (e8 : Value) (e9 : Value) (e10 : Value) (e11 : Value) (e12 : Value) (e13 : Value) (e14 : Value) (e15 : Value) (q0 : Arv Z h0 b kb .byte (16 : Int32) [e0, e1, e2, e3, e4, e5, e6, e7, e8, e9, e10, e11, e12, e13, e14, e15] (.int 0)) :
    OMet l Z own_EL n0 (⟨"java/util/Arrays", "copyOfRange", "([BII)[B"⟩ : MethodName) (Jvm.Cond.code (⟨"java/util/Arrays", "copyOfRange", "([BII)[B"⟩ : MethodName) jdk_65_method_132_code 3 (some (.array .byte)) :: wc) ({ frames := 2, cells := 1, slots := 13, locals := 56 } : Room) #[(.ref b), (.int 0), (.int 13)] h0 [] (fun vq hq => ∃ (r : Addr) (kr : ClassId), vq = some (.ref r) ∧ h0.size ≤ r ∧ Arv Z hq r kr .byte (13 : Int32) [e0, e1, e2, e3, e4, e5, e6, e7, e8, e9, e10, e11, e12] (.int 0)) := by
  refine own_enter #[.val (.ref b), .val (.int 0), .val (.int 13)] pn_java_util_Arrays_copyOfRange___BII__B (ef_rs_cr13 b kb e0 e1 e2 e3 e4 e5 e6 e7 e8 e9 e10 e11 e12 e13 e14 e15) hWd.1 O0 all0 ?_
  intro p e s m below meth c T0 X0 hnm hret
  refine og_iloadN X0 1 d28_0 rfl rfl ?_
  refine og_ifN X0 4 d28_1 (XT.i0_ne_f (by decide)) rfl ?_
  refine og_iloadN X0 5 d28_4 rfl rfl ?_
  refine og_aloadN X0 6 d28_5 rfl rfl rfl ?_
  refine own_len X0 7 d28_6 q0 rfl ?_
  refine og_icmpN X0 10 d28_7 (XT.ii_eq_f (by decide)) rfl ?_
  refine og_aloadN X0 11 d28_10 rfl rfl rfl ?_
  refine og_iloadN X0 12 d28_11 rfl rfl ?_
  refine og_iloadN X0 13 d28_12 rfl rfl ?_
  refine own_stat X0 16 (argsL := [(.ref b), (.int 0), (.int 13)]) (rest := []) d28_13 (rs_crb13 l Z a0 hw n0 h0 hWd [] X0.old b kb e0 e1 e2 e3 e4 e5 e6 e7 e8 e9 e10 e11 e12 e13 e14 e15 q0 ) (ow hw 155 rfl) (ow hw 156 rfl) (ow hw 153 rfl) (ow hw 157 rfl) (by decide) (lenOf pd__28_5bBII_29_5bB rfl) rfl rfl rfl (W := 0) rfl (by decide) (by decide) (by decide) (by decide) all0 rfl ?_
  intro T1 h1 v1 X1 K1 hQ1
  obtain ⟨r1, kr1, rfl, ge_r1, f2⟩ := hQ1
  show OGo _ _ _ _ T1 (mkF m 16 #[.val (.ref b), .val (.int 0), .val (.int 13)] [(.ref r1)])
  refine own_retA X1 d28_16 hret rfl rfl (by decide) (by decide) ?_
  exact ⟨r1, kr1, rfl, ge_r1, f2⟩
theorem rs_iv13 (l : Launch) (Z : State) (a0 : Array Value) (hw : ∀ d ∈ tables_1, d.before a0 Z = true) (n0 : Nat) (h0 : Heap) (hWd : OWorld Z a0) (wc : List Jvm.Cond) (O0 : Old Z n0 h0) (a : Addr) (y : Value) (z : Int32) (b : Addr) (d : Addr) (kd : ClassId) (y0 : Int32) (y1 : Int32) (y2 : Int32) (y3 : Int32) (y4 : Int32) (y5 : Int32) (y6 : Int32) (y7 : Int32) (y8 : Int32) (y9 : Int32) (y10 : Int32) (y11 : Int32) (y12 : Int32) (e13 : Value) (e14 : Value) (e15 : Value) (q0 : Exa Z h0 a "java/lang/String") (q1 : Fld Z h0 a "java/lang/String" "value" "[B" y) (q2 : Fld Z h0 a "java/lang/String" "coder" "B" (.int z)) (q3 : Exa Z h0 b "java/lang/StringBuilder") (q4 : Fld Z h0 b "java/lang/AbstractStringBuilder" "value" "[B" (.ref d)) (q5 : Fld Z h0 b "java/lang/AbstractStringBuilder" "coder" "B" (.int 0)) (q6 : Fld Z h0 b "java/lang/AbstractStringBuilder" "count" "I" (.int 13)) (q7 : Arv Z h0 d kd .byte (16 : Int32) [(.int (StrChars.lo8 y0)), (.int (StrChars.lo8 y1)), (.int (StrChars.lo8 y2)), (.int (StrChars.lo8 y3)), (.int (StrChars.lo8 y4)), (.int (StrChars.lo8 y5)), (.int (StrChars.lo8 y6)), (.int (StrChars.lo8 y7)), (.int (StrChars.lo8 y8)), (.int (StrChars.lo8 y9)), (.int (StrChars.lo8 y10)), (.int (StrChars.lo8 y11)), (.int (StrChars.lo8 y12)), e13, e14, e15] (.int 0)) (q8 : ∀ c ∈ [y0, y1, y2, y3, y4, y5, y6, y7, y8, y9, y10, y11, y12], ¬ c < 0 ∧ ¬ (255 : Int32) < c) (g0 : n0 ≤ a ∧ a < h0.size) :
    OMet l Z own_EL n0 (⟨"java/lang/String", "<init>", "(Ljava/lang/AbstractStringBuilder;Ljava/lang/Void;)V"⟩ : MethodName) (Jvm.Cond.code (⟨"java/lang/String", "<init>", "(Ljava/lang/AbstractStringBuilder;Ljava/lang/Void;)V"⟩ : MethodName) jdk_42_method_150_code 5 none :: wc) ({ frames := 3, cells := 1, slots := 13, locals := 71 } : Room) #[(.ref a), (.ref b), .null] h0 [a] (fun vq hq => vq = none ∧ OStr Z hq a [y0, y1, y2, y3, y4, y5, y6, y7, y8, y9, y10, y11, y12] hq.size) := by
  refine own_enter #[.val (.ref a), .val (.ref b), .val .null, .unset, .unset] pn_java_lang_String__init___Ljava_lang_AbstractStringBuilder_Ljava_lang_Void__V (ef_rs_iv13 a y z b d kd y0 y1 y2 y3 y4 y5 y6 y7 y8 y9 y10 y11 y12 e13 e14 e15) hWd.1 O0 (allS g0 all0) ?_
  intro p e s m below meth c T0 X0 hnm hret
  refine og_aloadN X0 1 d23_0 rfl rfl rfl ?_
  refine own_obj0 X0 4 (a := a) d23_1 (ow hw 16 rfl) (ow hw 17 rfl) (ow hw 18 rfl) rfl (W := 0) rfl (by decide) (by decide) rfl ?_
  intro T1 X2
  refine og_aloadN X2 5 d23_4 rfl rfl rfl ?_
  refine own_virt X2 8 (a := b) (argsL := []) (rest := []) d23_5 q3 (fun _ hZ => notFace_of_selects (args := #[]) (mvT hZ (ow hw 136 rfl))) (rm24 l Z a0 hw n0 h0 hWd [] X2.old b d q4 ) (ow hw 133 rfl) (ow hw 134 rfl) (ow hw 136 rfl) (ow hw 135 rfl) (ow hw 64 rfl) (ow hw 137 rfl) (by decide) (lenOf pd__28_29_5bB rfl) rfl rfl rfl (W := 0) rfl (by decide) (by decide) (by decide) (by decide) all0 rfl ?_
  intro T3 h3 v3 X3 K3 hQ3
  obtain rfl := hQ3
  show OGo _ _ _ _ T3 (mkF m 8 #[.val (.ref a), .val (.ref b), .val .null, .unset, .unset] [(.ref d)])
  refine og_astoreN X3 9 #[.val (.ref a), .val (.ref b), .val .null, .val (.ref d), .unset] d23_8 rfl rfl rfl ?_
  refine og_aloadN X3 10 d23_9 rfl rfl rfl ?_
  have f4 := q3.keep K3
  have f5 := q6.keep K3 nin0
  refine own_virt X3 13 (a := b) (argsL := []) (rest := []) d23_10 f4 (fun _ hZ => own_nfz (args := #[]) (y := (⟨"java/lang/AbstractStringBuilder", "length", "()I"⟩ : MethodName)) (mvT hZ (ow hw 98 rfl)) rfl) (rm25 l Z a0 hw n0 h3 hWd [] X3.old b (13 : Int32) f4 f5 ) (ow hw 138 rfl) (ow hw 139 rfl) (ow hw 141 rfl) (ow hw 142 rfl) (ow hw 56 rfl) (ow hw 143 rfl) (by decide) (lenOf pd__28_29I rfl) rfl rfl rfl (W := 0) rfl (by decide) (by decide) (by decide) (by decide) all0 rfl ?_
  intro T6 h6 v6 X6 K6 hQ6
  obtain rfl := hQ6
  show OGo _ _ _ _ T6 (mkF m 13 #[.val (.ref a), .val (.ref b), .val .null, .val (.ref d), .unset] [(.int 13)])
  refine og_istore X6 15 #[.val (.ref a), .val (.ref b), .val .null, .val (.ref d), .val (.int 13)] d23_13 rfl rfl ?_
  refine og_aloadN X6 16 d23_15 rfl rfl rfl ?_
  have f7 := f4.keep K6
  have f8 := q5.keep K3 nin0
  have f9 := f8.keep K6 nin0
  refine own_virt X6 19 (a := b) (argsL := []) (rest := []) d23_16 f7 (fun _ hZ => notFace_of_selects (args := #[]) (mvT hZ (ow hw 149 rfl))) (rm27 l Z a0 hw n0 h6 hWd [] X6.old b f9 ) (ow hw 146 rfl) (ow hw 147 rfl) (ow hw 149 rfl) (ow hw 148 rfl) (ow hw 64 rfl) (ow hw 150 rfl) (by decide) (lenOf pd__28_29Z rfl) rfl rfl rfl (W := 0) rfl (by decide) (by decide) (by decide) (by decide) all0 rfl ?_
  intro T10 h10 v10 X10 K10 hQ10
  obtain rfl := hQ10
  show OGo _ _ _ _ T10 (mkF m 19 #[.val (.ref a), .val (.ref b), .val .null, .val (.ref d), .val (.int 13)] [(.int 1)])
  refine og_ifN X10 22 d23_19 (XT.i0_eq_f (by decide)) rfl ?_
  refine og_aloadN X10 23 d23_22 rfl rfl rfl ?_
  refine og_iconst X10 24 (0 : Int32) d23_23 rfl rfl ?_
  have f11 := q2.keep K3 nin0
  have f12 := f11.keep K6 nin0
  have f13 := f12.keep K10 nin0
  have f14 := q0.keep K3
  have f15 := f14.keep K6
  have f16 := f15.keep K10
  have f17 := q1.keep K3 nin0
  have f18 := f17.keep K6 nin0
  have f19 := f18.keep K10 nin0
  refine own_put X10 27 d23_24 (host := "") (Or.inl (ow hw 31 rfl)) Via.refl f13 f16 (Or.inr ⟨(ow hw 32 rfl), rfl, hnm⟩) (ow hw 7 rfl) (ty := .byte) (by decide) rfl rfl (om 0 rfl) rfl ?_
  intro T20 h20 X20 W20 K20 F20
  have f21 := Fld.other W20 f19 (Or.inr (slot_ne (Or.inr (ow hw 34 rfl)) (Or.inr (ow hw 32 rfl)) (by decide) (t := (.array .byte)) (t' := .byte) (by decide) (by decide)))
  refine og_aloadN X20 28 d23_27 rfl rfl rfl ?_
  refine og_aloadN X20 29 d23_28 rfl rfl rfl ?_
  refine og_iconst X20 30 (0 : Int32) d23_29 rfl rfl ?_
  refine og_iload X20 32 d23_30 rfl rfl ?_
  have f22 := q7.keep K3 nin0
  have f23 := f22.keep K6 nin0
  have f24 := f23.keep K10 nin0
  have f25 := f24.keep K20 (ninS (Ne.symm (own_neA f16 (ow hw 7 rfl) f24)) nin0)
  refine own_stat X20 35 (argsL := [(.ref d), (.int 0), (.int 13)]) (rest := [(.ref a)]) d23_32 (rs_cr13 l Z a0 hw n0 h20 hWd [] X20.old d kd (.int (StrChars.lo8 y0)) (.int (StrChars.lo8 y1)) (.int (StrChars.lo8 y2)) (.int (StrChars.lo8 y3)) (.int (StrChars.lo8 y4)) (.int (StrChars.lo8 y5)) (.int (StrChars.lo8 y6)) (.int (StrChars.lo8 y7)) (.int (StrChars.lo8 y8)) (.int (StrChars.lo8 y9)) (.int (StrChars.lo8 y10)) (.int (StrChars.lo8 y11)) (.int (StrChars.lo8 y12)) e13 e14 e15 f25 ) (ow hw 151 rfl) (ow hw 152 rfl) (ow hw 153 rfl) (ow hw 154 rfl) (by decide) (lenOf pd__28_5bBII_29_5bB rfl) rfl rfl rfl (W := 1) rfl (by decide) (by decide) (by decide) (by decide) all0 rfl ?_
  intro T26 h26 v26 X26 K26 hQ26
  obtain ⟨r26, kr26, rfl, ge_r26, f27⟩ := hQ26
  show OGo _ _ _ _ T26 (mkF m 35 #[.val (.ref a), .val (.ref b), .val .null, .val (.ref d), .val (.int 13)] [(.ref r26), (.ref a)])
  have f28 := f21.keep K26 nin0
  have f29 := f16.keep K20
  have f30 := f29.keep K26
  have f31 := F20.keep K26 nin0
  refine own_put X26 38 d23_35 (host := "") (Or.inl (ow hw 33 rfl)) Via.refl f28 f30 (Or.inr ⟨(ow hw 34 rfl), rfl, hnm⟩) (ow hw 7 rfl) (ty := (.array .byte)) (by decide) rfl rfl (om 0 rfl) rfl ?_
  intro T32 h32 X32 W32 K32 F32
  have f33 := Fld.other W32 f31 (Or.inr (slot_ne (Or.inr (ow hw 32 rfl)) (Or.inr (ow hw 34 rfl)) (by decide) (t := .byte) (t' := (.array .byte)) (by decide) (by decide)))
  refine og_goto X32 97 d23_38 (by decide) (by decide) ?_
  have f34 := f30.keep K32
  have f35 := f27.keep K32 (ninS (Nat.ne_of_gt (Nat.lt_of_lt_of_le (Nat.lt_of_lt_of_le q0.lt (Nat.le_trans (Nat.le_trans (Nat.le_trans K3.1 K6.1) K10.1) K20.1)) ge_r26)) nin0)
  refine own_retV X32 d23_97 hret (by decide) (by decide) ?_
  exact ⟨rfl, own_mkStr (cs := [y0, y1, y2, y3, y4, y5, y6, y7, y8, y9, y10, y11, y12]) (bs := [StrChars.lo8 y0, StrChars.lo8 y1, StrChars.lo8 y2, StrChars.lo8 y3, StrChars.lo8 y4, StrChars.lo8 y5, StrChars.lo8 y6, StrChars.lo8 y7, StrChars.lo8 y8, StrChars.lo8 y9, StrChars.lo8 y10, StrChars.lo8 y11, StrChars.lo8 y12]) (n := 13) f34 f33 F32 f35 rfl q8 rfl rfl (Nat.le_of_ble_eq_true rfl)⟩
theorem rs_is13 (l : Launch) (Z : State) (a0 : Array Value) (hw : ∀ d ∈ tables_1, d.before a0 Z = true) (n0 : Nat) (h0 : Heap) (hWd : OWorld Z a0) (wc : List Jvm.Cond) (O0 : Old Z n0 h0) (a : Addr) (y : Value) (z : Int32) (b : Addr) (d : Addr) (kd : ClassId) (y0 : Int32) (y1 : Int32) (y2 : Int32) (y3 : Int32) (y4 : Int32) (y5 : Int32) (y6 : Int32) (y7 : Int32) (y8 : Int32) (y9 : Int32) (y10 : Int32) (y11 : Int32) (y12 : Int32) (e13 : Value) (e14 : Value) (e15 : Value) (q0 : Exa Z h0 a "java/lang/String") (q1 : Fld Z h0 a "java/lang/String" "value" "[B" y) (q2 : Fld Z h0 a "java/lang/String" "coder" "B" (.int z)) (q3 : Exa Z h0 b "java/lang/StringBuilder") (q4 : Fld Z h0 b "java/lang/AbstractStringBuilder" "value" "[B" (.ref d)) (q5 : Fld Z h0 b "java/lang/AbstractStringBuilder" "coder" "B" (.int 0)) (q6 : Fld Z h0 b "java/lang/AbstractStringBuilder" "count" "I" (.int 13)) (q7 : Arv Z h0 d kd .byte (16 : Int32) [(.int (StrChars.lo8 y0)), (.int (StrChars.lo8 y1)), (.int (StrChars.lo8 y2)), (.int (StrChars.lo8 y3)), (.int (StrChars.lo8 y4)), (.int (StrChars.lo8 y5)), (.int (StrChars.lo8 y6)), (.int (StrChars.lo8 y7)), (.int (StrChars.lo8 y8)), (.int (StrChars.lo8 y9)), (.int (StrChars.lo8 y10)), (.int (StrChars.lo8 y11)), (.int (StrChars.lo8 y12)), e13, e14, e15] (.int 0)) (q8 : ∀ c ∈ [y0, y1, y2, y3, y4, y5, y6, y7, y8, y9, y10, y11, y12], ¬ c < 0 ∧ ¬ (255 : Int32) < c) (g0 : n0 ≤ a ∧ a < h0.size) :
    OMet l Z own_EL n0 (⟨"java/lang/String", "<init>", "(Ljava/lang/StringBuilder;)V"⟩ : MethodName) (Jvm.Cond.code (⟨"java/lang/String", "<init>", "(Ljava/lang/StringBuilder;)V"⟩ : MethodName) jdk_42_method_53_code 2 none :: wc) ({ frames := 4, cells := 1, slots := 13, locals := 87 } : Room) #[(.ref a), (.ref b)] h0 [a] (fun vq hq => vq = none ∧ OStr Z hq a [y0, y1, y2, y3, y4, y5, y6, y7, y8, y9, y10, y11, y12] hq.size) := by
  refine own_enter #[.val (.ref a), .val (.ref b)] pn_java_lang_String__init___Ljava_lang_StringBuilder__V (ef_rs_is13 a y z b d kd y0 y1 y2 y3 y4 y5 y6 y7 y8 y9 y10 y11 y12 e13 e14 e15) hWd.1 O0 (allS g0 all0) ?_
  intro p e s m below meth c T0 X0 hnm hret
  refine og_aloadN X0 1 d22_0 rfl rfl rfl ?_
  refine og_aloadN X0 2 d22_1 rfl rfl rfl ?_
  refine og_aconstNull X0 3 d22_2 rfl ?_
  refine own_spec X0 6 (a := a) (argsL := [(.ref b), .null]) (rest := []) d22_3 rfl (rs_iv13 l Z a0 hw n0 h0 hWd [] X0.old a y z b d kd y0 y1 y2 y3 y4 y5 y6 y7 y8 y9 y10 y11 y12 e13 e14 e15 q0 q1 q2 q3 q4 q5 q6 q7 q8 (own_svb X0 (om 0 rfl))) (ow hw 130 rfl) (ow hw 131 rfl) (ow hw 8 rfl) (ow hw 132 rfl) (by decide) (lenOf pd__28Ljava_2flang_2fAbstractStringBuilder_3bLjava_2flang_2fVoid_3b_29V rfl) rfl rfl rfl (W := 0) rfl (by decide) (by decide) (by decide) (by decide) (allS (om 0 rfl) all0) rfl ?_
  intro T1 h1 v1 X1 K1 hQ1
  obtain ⟨rfl, f2⟩ := hQ1
  show OGo _ _ _ _ T1 (mkF m 6 #[.val (.ref a), .val (.ref b)] [])
  refine own_retV X1 d22_6 hret (by decide) (by decide) ?_
  exact ⟨rfl, f2.top⟩
theorem rs_ts13 (l : Launch) (Z : State) (a0 : Array Value) (hw : ∀ d ∈ tables_1, d.before a0 Z = true) (n0 : Nat) (h0 : Heap) (hWd : OWorld Z a0) (wc : List Jvm.Cond) (O0 : Old Z n0 h0) (b : Addr) (d : Addr) (kd : ClassId) (y0 : Int32) (y1 : Int32) (y2 : Int32) (y3 : Int32) (y4 : Int32) (y5 : Int32) (y6 : Int32) (y7 : Int32) (y8 : Int32) (y9 : Int32) (y10 : Int32) (y11 : Int32) (y12 : Int32) (e13 : Value) (e14 : Value) (e15 : Value) (q0 : Exa Z h0 b "java/lang/StringBuilder") (q1 : Fld Z h0 b "java/lang/AbstractStringBuilder" "value" "[B" (.ref d)) (q2 : Fld Z h0 b "java/lang/AbstractStringBuilder" "coder" "B" (.int 0)) (q3 : Fld Z h0 b "java/lang/AbstractStringBuilder" "count" "I" (.int 13)) (q4 : Arv Z h0 d kd .byte (16 : Int32) [(.int (StrChars.lo8 y0)), (.int (StrChars.lo8 y1)), (.int (StrChars.lo8 y2)), (.int (StrChars.lo8 y3)), (.int (StrChars.lo8 y4)), (.int (StrChars.lo8 y5)), (.int (StrChars.lo8 y6)), (.int (StrChars.lo8 y7)), (.int (StrChars.lo8 y8)), (.int (StrChars.lo8 y9)), (.int (StrChars.lo8 y10)), (.int (StrChars.lo8 y11)), (.int (StrChars.lo8 y12)), e13, e14, e15] (.int 0)) (q5 : ∀ c ∈ [y0, y1, y2, y3, y4, y5, y6, y7, y8, y9, y10, y11, y12], ¬ c < 0 ∧ ¬ (255 : Int32) < c) :
    OMet l Z own_EL n0 (⟨"java/lang/StringBuilder", "toString", "()Ljava/lang/String;"⟩ : MethodName) (Jvm.Cond.code (⟨"java/lang/StringBuilder", "toString", "()Ljava/lang/String;"⟩ : MethodName) jdk_67_method_42_code 1 (some (.object "java/lang/String")) :: wc) ({ frames := 5, cells := 2, slots := 17, locals := 101 } : Room) #[(.ref b)] h0 [] (fun vq hq => ∃ (r : Addr), vq = some (.ref r) ∧ h0.size ≤ r ∧ OStr Z hq r [y0, y1, y2, y3, y4, y5, y6, y7, y8, y9, y10, y11, y12] hq.size) := by
  refine own_enter #[.val (.ref b)] pn_java_lang_StringBuilder_toString___Ljava_lang_String_ (ef_rs_ts13 b d kd y0 y1 y2 y3 y4 y5 y6 y7 y8 y9 y10 y11 y12 e13 e14 e15) hWd.1 O0 all0 ?_
  intro p e s m below meth c T0 X0 hnm hret
  refine own_new X0 3 d21_0 (ow hw 126 rfl) (ow hw 7 rfl) (ow hw 8 rfl) (by decide) (by decide) rfl ?_
  intro T1 h1 b1 X1 K1 G1 U1 E1 D1
  have f2 : Fld Z h1 b1 "java/lang/String" "coder" "B" (.int 0) := D1 (Or.inr (ow hw 32 rfl)) (ty := .byte) (by decide)
  have f3 : Fld Z h1 b1 "java/lang/String" "value" "[B" .null := D1 (Or.inr (ow hw 34 rfl)) (ty := (.array .byte)) (by decide)
  refine og_dup X1 4 d21_3 rfl rfl ?_
  refine og_aloadN X1 5 d21_4 rfl rfl rfl ?_
  have f4 := q0.keep K1
  have f5 := q1.keep K1 nin0
  have f6 := q2.keep K1 nin0
  have f7 := q3.keep K1 nin0
  have f8 := q4.keep K1 nin0
  refine own_spec X1 8 (a := b1) (argsL := [(.ref b)]) (rest := [(.ref b1)]) d21_5 rfl (rs_is13 l Z a0 hw n0 h1 hWd [] X1.old b1 .null (0 : Int32) b d kd y0 y1 y2 y3 y4 y5 y6 y7 y8 y9 y10 y11 y12 e13 e14 e15 E1 f3 f2 f4 f5 f6 f7 f8 q5 (own_svb X1 (om 0 rfl))) (ow hw 127 rfl) (ow hw 128 rfl) (ow hw 8 rfl) (ow hw 129 rfl) (by decide) (lenOf pd__28Ljava_2flang_2fStringBuilder_3b_29V rfl) rfl rfl rfl (W := 1) rfl (by decide) (by decide) (by decide) (by decide) (allS (om 0 rfl) all0) rfl ?_
  intro T9 h9 v9 X9 K9 hQ9
  obtain ⟨rfl, f10⟩ := hQ9
  show OGo _ _ _ _ T9 (mkF m 8 #[.val (.ref b)] [(.ref b1)])
  refine own_retA X9 d21_8 hret rfl rfl (by decide) (by decide) ?_
  exact ⟨b1, rfl, G1, f10.top⟩
theorem rs_em1 (l : Launch) (Z : State) (a0 : Array Value) (hw : ∀ d ∈ tables_1, d.before a0 Z = true) (n0 : Nat) (h0 : Heap) (hWd : OWorld Z a0) (wc : List Jvm.Cond) (O0 : Old Z n0 h0) (a : Addr) (x0 : Int32) (q0 : OStr Z h0 a [x0] h0.size) :
    OMet l Z own_EL n0 (⟨"java/lang/String", "isEmpty", "()Z"⟩ : MethodName) (Jvm.Cond.code (⟨"java/lang/String", "isEmpty", "()Z"⟩ : MethodName) jdk_42_method_55_code 1 (some .boolean) :: wc) ({ frames := 0, cells := 0, slots := 0, locals := 0 } : Room) #[(.ref a)] h0 [] (fun vq hq => vq = some (.int 0)) := by
  refine own_enter #[.val (.ref a)] pn_java_lang_String_isEmpty___Z (ef_rs_em1 a x0) hWd.1 O0 all0 ?_
  intro p e s m below meth c T0 X0 hnm hret
  obtain ⟨t, kt, cd, NN, vv, eE, eC, eV, eA, cod, bd, -⟩ := q0
  rcases cod with ⟨rfl, rfl, rfl, lat⟩ | ⟨rfl, rfl, rfl, wid⟩
  · -- coder 0
    have eA2 : Arv Z h0 t kt .byte (1 : Int32) [(.int (StrChars.lo8 x0))] (.int 0) := eA
    refine og_aloadN X0 1 d10_0 rfl rfl rfl ?_
    refine own_get X0 4 d10_1 (host := "") (Or.inl (ow hw 33 rfl)) Via.refl eV rfl ?_
    intro T1 X2
    refine own_len X2 5 d10_4 eA2 rfl ?_
    refine og_ifY X2 12 d10_5 (XT.i0_ne_t (by decide)) (by decide) (by decide) ?_
    refine og_iconst X2 13 (0 : Int32) d10_12 rfl rfl ?_
    refine own_retZ X2 d10_13 hret rfl (by decide) (by decide) ?_
    exact rfl
  · -- coder 1
    have eA2 : Arv Z h0 t kt .byte (2 : Int32) [(.int (StrChars.lo8 x0)), (.int (StrChars.hi8 x0))] (.int 0) := eA
    refine og_aloadN X0 1 d10_0 rfl rfl rfl ?_
    refine own_get X0 4 d10_1 (host := "") (Or.inl (ow hw 33 rfl)) Via.refl eV rfl ?_
    intro T3 X4
    refine own_len X4 5 d10_4 eA2 rfl ?_
    refine og_ifY X4 12 d10_5 (XT.i0_ne_t (by decide)) (by decide) (by decide) ?_
    refine og_iconst X4 13 (0 : Int32) d10_12 rfl rfl ?_
    refine own_retZ X4 d10_13 hret rfl (by decide) (by decide) ?_
    exact rfl
theorem rs_em2 (l : Launch) (Z : State) (a0 : Array Value) (hw : ∀ d ∈ tables_1, d.before a0 Z = true) (n0 : Nat) (h0 : Heap) (hWd : OWorld Z a0) (wc : List Jvm.Cond) (O0 : Old Z n0 h0) (a : Addr) (x0 : Int32) (x1 : Int32) (q0 : OStr Z h0 a [x0, x1] h0.size) :
    OMet l Z own_EL n0 (⟨"java/lang/String", "isEmpty", "()Z"⟩ : MethodName) (Jvm.Cond.code (⟨"java/lang/String", "isEmpty", "()Z"⟩ : MethodName) jdk_42_method_55_code 1 (some .boolean) :: wc) ({ frames := 0, cells := 0, slots := 0, locals := 0 } : Room) #[(.ref a)] h0 [] (fun vq hq => vq = some (.int 0)) := by
  refine own_enter #[.val (.ref a)] pn_java_lang_String_isEmpty___Z (ef_rs_em2 a x0 x1) hWd.1 O0 all0 ?_
  intro p e s m below meth c T0 X0 hnm hret
  obtain ⟨t, kt, cd, NN, vv, eE, eC, eV, eA, cod, bd, -⟩ := q0
  rcases cod with ⟨rfl, rfl, rfl, lat⟩ | ⟨rfl, rfl, rfl, wid⟩
  · -- coder 0
    have eA2 : Arv Z h0 t kt .byte (2 : Int32) [(.int (StrChars.lo8 x0)), (.int (StrChars.lo8 x1))] (.int 0) := eA
    refine og_aloadN X0 1 d10_0 rfl rfl rfl ?_
    refine own_get X0 4 d10_1 (host := "") (Or.inl (ow hw 33 rfl)) Via.refl eV rfl ?_
    intro T1 X2
    refine own_len X2 5 d10_4 eA2 rfl ?_
    refine og_ifY X2 12 d10_5 (XT.i0_ne_t (by decide)) (by decide) (by decide) ?_
    refine og_iconst X2 13 (0 : Int32) d10_12 rfl rfl ?_
    refine own_retZ X2 d10_13 hret rfl (by decide) (by decide) ?_
    exact rfl
  · -- coder 1
    have eA2 : Arv Z h0 t kt .byte (4 : Int32) [(.int (StrChars.lo8 x0)), (.int (StrChars.hi8 x0)), (.int (StrChars.lo8 x1)), (.int (StrChars.hi8 x1))] (.int 0) := eA
    refine og_aloadN X0 1 d10_0 rfl rfl rfl ?_
    refine own_get X0 4 d10_1 (host := "") (Or.inl (ow hw 33 rfl)) Via.refl eV rfl ?_
    intro T3 X4
    refine own_len X4 5 d10_4 eA2 rfl ?_
    refine og_ifY X4 12 d10_5 (XT.i0_ne_t (by decide)) (by decide) (by decide) ?_
    refine og_iconst X4 13 (0 : Int32) d10_12 rfl rfl ?_
    refine own_retZ X4 d10_13 hret rfl (by decide) (by decide) ?_
    exact rfl
theorem rs_em3 (l : Launch) (Z : State) (a0 : Array Value) (hw : ∀ d ∈ tables_1, d.before a0 Z = true) (n0 : Nat) (h0 : Heap) (hWd : OWorld Z a0) (wc : List Jvm.Cond) (O0 : Old Z n0 h0) (a : Addr) (x0 : Int32) (x1 : Int32) (x2 : Int32) (q0 : OStr Z h0 a [x0, x1, x2] h0.size) :
    OMet l Z own_EL n0 (⟨"java/lang/String", "isEmpty", "()Z"⟩ : MethodName) (Jvm.Cond.code (⟨"java/lang/String", "isEmpty", "()Z"⟩ : MethodName) jdk_42_method_55_code 1 (some .boolean) :: wc) ({ frames := 0, cells := 0, slots := 0, locals := 0 } : Room) #[(.ref a)] h0 [] (fun vq hq => vq = some (.int 0)) := by
  refine own_enter #[.val (.ref a)] pn_java_lang_String_isEmpty___Z (ef_rs_em3 a x0 x1 x2) hWd.1 O0 all0 ?_
  intro p e s m below meth c T0 X0 hnm hret
  obtain ⟨t, kt, cd, NN, vv, eE, eC, eV, eA, cod, bd, -⟩ := q0
  rcases cod with ⟨rfl, rfl, rfl, lat⟩ | ⟨rfl, rfl, rfl, wid⟩
  · -- coder 0
    have eA2 : Arv Z h0 t kt .byte (3 : Int32) [(.int (StrChars.lo8 x0)), (.int (StrChars.lo8 x1)), (.int (StrChars.lo8 x2))] (.int 0) := eA
    refine og_aloadN X0 1 d10_0 rfl rfl rfl ?_
    refine own_get X0 4 d10_1 (host := "") (Or.inl (ow hw 33 rfl)) Via.refl eV rfl ?_
    intro T1 X2
    refine own_len X2 5 d10_4 eA2 rfl ?_
    refine og_ifY X2 12 d10_5 (XT.i0_ne_t (by decide)) (by decide) (by decide) ?_
    refine og_iconst X2 13 (0 : Int32) d10_12 rfl rfl ?_
    refine own_retZ X2 d10_13 hret rfl (by decide) (by decide) ?_
    exact rfl
  · -- coder 1
    have eA2 : Arv Z h0 t kt .byte (6 : Int32) [(.int (StrChars.lo8 x0)), (.int (StrChars.hi8 x0)), (.int (StrChars.lo8 x1)), (.int (StrChars.hi8 x1)), (.int (StrChars.lo8 x2)), (.int (StrChars.hi8 x2))] (.int 0) := eA
    refine og_aloadN X0 1 d10_0 rfl rfl rfl ?_
    refine own_get X0 4 d10_1 (host := "") (Or.inl (ow hw 33 rfl)) Via.refl eV rfl ?_
    intro T3 X4
    refine own_len X4 5 d10_4 eA2 rfl ?_
    refine og_ifY X4 12 d10_5 (XT.i0_ne_t (by decide)) (by decide) (by decide) ?_
    refine og_iconst X4 13 (0 : Int32) d10_12 rfl rfl ?_
    refine own_retZ X4 d10_13 hret rfl (by decide) (by decide) ?_
    exact rfl
theorem rm9 (l : Launch) (Z : State) (a0 : Array Value) (hw : ∀ d ∈ tables_1, d.before a0 Z = true) (n0 : Nat) (h0 : Heap) (hWd : OWorld Z a0) (wc : List Jvm.Cond) (O0 : Old Z n0 h0) (a : Addr) (b : Addr)  :
    OMet l Z own_EL n0 (⟨"java/util/Objects", "requireNonNull", "(Ljava/lang/Object;Ljava/lang/String;)Ljava/lang/Object;"⟩ : MethodName) (Jvm.Cond.code (⟨"java/util/Objects", "requireNonNull", "(Ljava/lang/Object;Ljava/lang/String;)Ljava/lang/Object;"⟩ : MethodName) jdk_31_method_11_code 2 (some (.object "java/lang/Object")) :: wc) ({ frames := 0, cells := 0, slots := 0, locals := 0 } : Room) #[(.ref a), (.ref b)] h0 [] (fun vq hq => vq = some (.ref a)) := by
  refine own_enter #[.val (.ref a), .val (.ref b)] pn_java_util_Objects_requireNonNull__Ljava_lang_Object_Ljava_lang_String__Ljava_lang_Object_ (ef_rm9 a b) hWd.1 O0 all0 ?_
  intro p e s m below meth c T0 X0 hnm hret
  refine og_aloadN X0 1 d9_0 rfl rfl rfl ?_
  refine og_nonnullY X0 13 d9_1 (by decide) (by decide) ?_
  refine og_aloadN X0 14 d9_13 rfl rfl rfl ?_
  refine own_retA X0 d9_14 hret rfl rfl (by decide) (by decide) ?_
  exact rfl
theorem rm_lk (l : Launch) (Z : State) (a0 : Array Value) (hw : ∀ d ∈ tables_1, d.before a0 Z = true) (n0 : Nat) (h0 : Heap) (hWd : OWorld Z a0) (wc : List Jvm.Cond) (O0 : Old Z n0 h0) (a : Addr) (u : Addr) (cs : List Int32) (q0 : Exa Z h0 a "com/example/synlock/synlock/LockKeys") (q1 : Fld Z h0 a "com/example/synlock/synlock/LockKeys" "key" "Ljava/lang/String;" .null) (q2 : OStr Z h0 u cs h0.size) (q3 : ∀ c ∈ cs, ¬ c < 0 ∧ ¬ (255 : Int32) < c) (q4 : (∃ x, cs = [x]) ∨ (∃ x y, cs = [x, y]) ∨ (∃ x y z, cs = [x, y, z])) (g0 : n0 ≤ a ∧ a < h0.size) :
    OMet l Z own_EL n0 (⟨"com/example/synlock/synlock/LockKeys", "<init>", "(Ljava/lang/String;)V"⟩ : MethodName) (Jvm.Cond.code (⟨"com/example/synlock/synlock/LockKeys", "<init>", "(Ljava/lang/String;)V"⟩ : MethodName) prog_4_method_1_code 2 none :: wc) ({ frames := 6, cells := 10, slots := 105, locals := 114 } : Room) #[(.ref a), (.ref u)] h0 [a] (fun vq hq => ∃ (k : Addr), vq = none ∧ h0.size ≤ k ∧ Fld Z hq a "com/example/synlock/synlock/LockKeys" "key" "Ljava/lang/String;" (.ref k) ∧ OStr Z hq k (own_key cs) hq.size) := by
  refine own_enter #[.val (.ref a), .val (.ref u)] pn_com_example_synlock_synlock_LockKeys__init___Ljava_lang_String__V (ef_rm_lk a u cs) hWd.1 O0 (allS g0 all0) ?_
  intro p e s m below meth c T0 X0 hnm hret
  rcases q4 with ⟨x0, rfl⟩ | ⟨x0, x1, rfl⟩ | ⟨x0, x1, x2, rfl⟩
  · -- 1
    refine og_aloadN X0 1 d8_0 rfl rfl rfl ?_
    refine own_obj0 X0 4 (a := a) d8_1 (ow hw 41 rfl) (ow hw 17 rfl) (ow hw 18 rfl) rfl (W := 0) rfl (by decide) (by decide) rfl ?_
    intro T1 X2
    refine og_aloadN X2 5 d8_4 rfl rfl rfl ?_
    refine own_ldcO X2 7 (cap := 16) d8_5 own_ELne (ow hw 42 rfl) (own_wS hw) (by decide) (by decide) (by decide) (by decide) rfl ?_
    intro T3 h3 a3 X3 K3
    refine own_stat X3 10 (argsL := [(.ref u), (.ref a3)]) (rest := []) d8_7 (rm9 l Z a0 hw n0 h3 hWd [] X3.old u a3  ) (ow hw 45 rfl) (ow hw 46 rfl) (ow hw 47 rfl) (ow hw 48 rfl) (by decide) (lenOf pd__28Ljava_2flang_2fObject_3bLjava_2flang_2fString_3b_29Ljava_2flang_2fObject_3b rfl) rfl rfl rfl (W := 0) rfl (by decide) (by decide) (by decide) (by decide) all0 rfl ?_
    intro T4 h4 v4 X4 K4 hQ4
    obtain rfl := hQ4
    show OGo _ _ _ _ T4 (mkF m 10 #[.val (.ref a), .val (.ref u)] [(.ref u)])
    refine og_pop X4 11 d8_10 rfl rfl ?_
    refine og_aloadN X4 12 d8_11 rfl rfl rfl ?_
    have f5 := q2.exa.keep K3
    have f6 := f5.keep K4
    have f7 := q2.keep K3 all0
    have f8 := f7.keep K4 all0
    refine own_virt X4 15 (a := u) (argsL := []) (rest := []) d8_12 f6 (fun _ hZ => notFace_of_selects (args := #[]) (mvT hZ (ow hw 52 rfl))) (rs_em1 l Z a0 hw n0 h4 hWd [] X4.old u x0 f8.top ) (ow hw 49 rfl) (ow hw 50 rfl) (ow hw 52 rfl) (ow hw 51 rfl) (ow hw 8 rfl) (ow hw 53 rfl) (by decide) (lenOf pd__28_29Z rfl) rfl rfl rfl (W := 0) rfl (by decide) (by decide) (by decide) (by decide) all0 rfl ?_
    intro T9 h9 v9 X9 K9 hQ9
    obtain rfl := hQ9
    show OGo _ _ _ _ T9 (mkF m 15 #[.val (.ref a), .val (.ref u)] [(.int 0)])
    refine og_ifY X9 28 d8_15 (XT.i0_eq_t (by decide)) (by decide) (by decide) ?_
    refine og_aloadN X9 29 d8_28 rfl rfl rfl ?_
    refine own_new X9 32 d8_29 (ow hw 54 rfl) (ow hw 55 rfl) (ow hw 56 rfl) (by decide) (by decide) rfl ?_
    intro T10 h10 b10 X10 K10 G10 U10 E10 D10
    have f11 : Fld Z h10 b10 "java/lang/AbstractStringBuilder" "value" "[B" .null := D10 (Or.inl (ow hw 69 rfl)) (ty := (.array .byte)) (by decide)
    have f12 : Fld Z h10 b10 "java/lang/AbstractStringBuilder" "coder" "B" (.int 0) := D10 (Or.inl (ow hw 71 rfl)) (ty := .byte) (by decide)
    have f13 : Fld Z h10 b10 "java/lang/AbstractStringBuilder" "count" "I" (.int 0) := D10 (Or.inl (ow hw 94 rfl)) (ty := .int) (by decide)
    refine og_dup X10 33 d8_32 rfl rfl ?_
    refine own_spec X10 36 (a := b10) (argsL := []) (rest := [(.ref b10), (.ref a)]) d8_33 rfl (rm11 l Z a0 hw n0 h10 hWd [] X10.old b10 .null (0 : Int32) (0 : Int32) E10 f11 f12 f13 (own_svb X10 (om 0 rfl))) (ow hw 57 rfl) (ow hw 58 rfl) (ow hw 56 rfl) (ow hw 59 rfl) (by decide) (lenOf pd__28_29V rfl) rfl rfl rfl (W := 2) rfl (by decide) (by decide) (by decide) (by decide) (allS (om 0 rfl) all0) rfl ?_
    intro T14 h14 v14 X14 K14 hQ14
    obtain ⟨d14, kd14, rfl, ge_d14, f15, f16, f17, f18⟩ := hQ14
    show OGo _ _ _ _ T14 (mkF m 36 #[.val (.ref a), .val (.ref u)] [(.ref b10), (.ref a)])
    refine own_ldcR X14 38 (cap := 36) (vs := [(.int (StrChars.lo8 (own_c 72 0))), (.int (StrChars.lo8 (own_c 72 1))), (.int (StrChars.lo8 (own_c 72 2))), (.int (StrChars.lo8 (own_c 72 3))), (.int (StrChars.lo8 (own_c 72 4))), (.int (StrChars.lo8 (own_c 72 5))), (.int (StrChars.lo8 (own_c 72 6))), (.int (StrChars.lo8 (own_c 72 7))), (.int (StrChars.lo8 (own_c 72 8)))]) (z := (9 : Int32)) d8_36 (om 1 rfl) (ow hw 72 rfl) (own_wS hw) ⟨by decide, own_kv72⟩ (by decide) rfl (by decide) (by decide) (by decide) (by decide) rfl ?_
    intro T19 h19 a19 b19 kb19 X19 K19 E19 C19 V19 A19 far19
    have f20 := own_mkStr (cs := [(own_c 72 0), (own_c 72 1), (own_c 72 2), (own_c 72 3), (own_c 72 4), (own_c 72 5), (own_c 72 6), (own_c 72 7), (own_c 72 8)]) (bs := [StrChars.lo8 (own_c 72 0), StrChars.lo8 (own_c 72 1), StrChars.lo8 (own_c 72 2), StrChars.lo8 (own_c 72 3), StrChars.lo8 (own_c 72 4), StrChars.lo8 (own_c 72 5), StrChars.lo8 (own_c 72 6), StrChars.lo8 (own_c 72 7), StrChars.lo8 (own_c 72 8)]) (n := 9) E19 C19 V19 A19 rfl own_kl72 rfl rfl (Nat.le_of_ble_eq_true rfl)
    have f21 := E10.keep K14
    have f22 := f21.keep K19
    have f23 := f15.keep K19 nin0
    have f24 := f16.keep K19 nin0
    have f25 := f17.keep K19 nin0
    have f26 := f18.keep K19 nin0
    have X27 := own_svB X19 f26 (own_tx16 hw) (Nat.le_trans (own_n0 X10) ge_d14) (Nat.le_trans (Nat.le_trans (Nat.le_trans (Nat.le_trans K3.1 K4.1) K9.1) K10.1) ge_d14)
    refine own_virt X27 41 (a := b10) (argsL := [(.ref a19)]) (rest := [(.ref a)]) d8_38 f22 (fun _ hZ => notFace_of_selects (args := #[]) (mvT hZ (ow hw 76 rfl))) (rs_sa9_0 l Z a0 hw n0 h19 hWd [] X27.old b10 a19 d14 kd14 (own_c 72 0) (own_c 72 1) (own_c 72 2) (own_c 72 3) (own_c 72 4) (own_c 72 5) (own_c 72 6) (own_c 72 7) (own_c 72 8) (.int 0) (.int 0) (.int 0) (.int 0) (.int 0) (.int 0) (.int 0) (.int 0) (.int 0) (.int 0) (.int 0) (.int 0) (.int 0) (.int 0) (.int 0) (.int 0) f20.top own_kl72 f22 f23 f24 f25 f26 (own_svb X19 (om 0 rfl)) (own_svb X27 (om 0 rfl))) (ow hw 73 rfl) (ow hw 74 rfl) (ow hw 76 rfl) (ow hw 75 rfl) (ow hw 56 rfl) (ow hw 77 rfl) (by decide) (lenOf pd__28Ljava_2flang_2fString_3b_29Ljava_2flang_2fStringBuilder_3b rfl) rfl rfl rfl (W := 1) rfl (by decide) (by decide) (by decide) (by decide) (allS (om 1 rfl) (allS (om 0 rfl) all0)) rfl ?_
    intro T28 h28 v28 X28 K28 hQ28
    obtain ⟨rfl, f29, f30, f31, f32⟩ := hQ28
    show OGo _ _ _ _ T28 (mkF m 41 #[.val (.ref a), .val (.ref u)] [(.ref b10), (.ref a)])
    refine og_aloadN X28 42 d8_41 rfl rfl rfl ?_
    have f33 := f22.keep K28
    have f34 := f8.keep K9 all0
    have f35 := f34.keep K10 all0
    have f36 := f35.keep K14 (allS (Or.inl (Nat.le_trans (Nat.le_trans (Nat.le_trans K3.1 K4.1) K9.1) G10)) all0)
    have f37 := f36.keep K19 all0
    have f38 := f37.keep K28 (allS (Or.inl (Nat.le_trans (Nat.le_trans (Nat.le_trans K3.1 K4.1) K9.1) G10)) (allS (Or.inl (Nat.le_trans (Nat.le_trans (Nat.le_trans (Nat.le_trans K3.1 K4.1) K9.1) K10.1) ge_d14)) all0))
    refine own_virt X28 45 (a := b10) (argsL := [(.ref u)]) (rest := [(.ref a)]) d8_42 f33 (fun _ hZ => notFace_of_selects (args := #[]) (mvT hZ (ow hw 76 rfl))) (rs_sa1_9 l Z a0 hw n0 h28 hWd [] X28.old b10 u d14 kd14 x0 (.int (StrChars.lo8 (own_c 72 0))) (.int (StrChars.lo8 (own_c 72 1))) (.int (StrChars.lo8 (own_c 72 2))) (.int (StrChars.lo8 (own_c 72 3))) (.int (StrChars.lo8 (own_c 72 4))) (.int (StrChars.lo8 (own_c 72 5))) (.int (StrChars.lo8 (own_c 72 6))) (.int (StrChars.lo8 (own_c 72 7))) (.int (StrChars.lo8 (own_c 72 8))) (.int 0) (.int 0) (.int 0) (.int 0) (.int 0) (.int 0) (.int 0) f38.top q3 f33 f29 f30 f31 f32 (own_svb X28 (om 1 rfl)) (own_svb X28 (om 0 rfl))) (ow hw 73 rfl) (ow hw 74 rfl) (ow hw 76 rfl) (ow hw 75 rfl) (ow hw 56 rfl) (ow hw 77 rfl) (by decide) (lenOf pd__28Ljava_2flang_2fString_3b_29Ljava_2flang_2fStringBuilder_3b rfl) rfl rfl rfl (W := 1) rfl (by decide) (by decide) (by decide) (by decide) (allS (om 1 rfl) (allS (om 0 rfl) all0)) rfl ?_
    intro T39 h39 v39 X39 K39 hQ39
    obtain ⟨rfl, f40, f41, f42, f43⟩ := hQ39
    show OGo _ _ _ _ T39 (mkF m 45 #[.val (.ref a), .val (.ref u)] [(.ref b10), (.ref a)])
    refine own_ldcR X39 47 (cap := 4) (vs := [(.int (StrChars.lo8 (own_c 120 0)))]) (z := (1 : Int32)) d8_45 (om 2 rfl) (ow hw 120 rfl) (own_wS hw) ⟨by decide, own_kv120⟩ (by decide) rfl (by decide) (by decide) (by decide) (by decide) rfl ?_
    intro T44 h44 a44 b44 kb44 X44 K44 E44 C44 V44 A44 far44
    have f45 := own_mkStr (cs := [(own_c 120 0)]) (bs := [StrChars.lo8 (own_c 120 0)]) (n := 1) E44 C44 V44 A44 rfl own_kl120 rfl rfl (Nat.le_of_ble_eq_true rfl)
    have f46 := f33.keep K39
    have f47 := f46.keep K44
    have f48 := f40.keep K44 nin0
    have f49 := f41.keep K44 nin0
    have f50 := f42.keep K44 nin0
    have f51 := f43.keep K44 nin0
    refine own_virt X44 50 (a := b10) (argsL := [(.ref a44)]) (rest := [(.ref a)]) d8_47 f47 (fun _ hZ => notFace_of_selects (args := #[]) (mvT hZ (ow hw 76 rfl))) (rs_sa1_10 l Z a0 hw n0 h44 hWd [] X44.old b10 a44 d14 kd14 (own_c 120 0) (.int (StrChars.lo8 (own_c 72 0))) (.int (StrChars.lo8 (own_c 72 1))) (.int (StrChars.lo8 (own_c 72 2))) (.int (StrChars.lo8 (own_c 72 3))) (.int (StrChars.lo8 (own_c 72 4))) (.int (StrChars.lo8 (own_c 72 5))) (.int (StrChars.lo8 (own_c 72 6))) (.int (StrChars.lo8 (own_c 72 7))) (.int (StrChars.lo8 (own_c 72 8))) (.int (StrChars.lo8 x0)) (.int 0) (.int 0) (.int 0) (.int 0) (.int 0) (.int 0) f45.top own_kl120 f47 f48 f49 f50 f51 (own_svb X44 (om 1 rfl)) (own_svb X44 (om 0 rfl))) (ow hw 73 rfl) (ow hw 74 rfl) (ow hw 76 rfl) (ow hw 75 rfl) (ow hw 56 rfl) (ow hw 77 rfl) (by decide) (lenOf pd__28Ljava_2flang_2fString_3b_29Ljava_2flang_2fStringBuilder_3b rfl) rfl rfl rfl (W := 1) rfl (by decide) (by decide) (by decide) (by decide) (allS (om 1 rfl) (allS (om 0 rfl) all0)) rfl ?_
    intro T52 h52 v52 X52 K52 hQ52
    obtain ⟨rfl, f53, f54, f55, f56⟩ := hQ52
    show OGo _ _ _ _ T52 (mkF m 50 #[.val (.ref a), .val (.ref u)] [(.ref b10), (.ref a)])
    have f57 := f47.keep K52
    refine own_virt X52 53 (a := b10) (argsL := []) (rest := [(.ref a)]) d8_50 f57 (fun _ hZ => notFace_of_selects (args := #[]) (mvT hZ (ow hw 124 rfl))) (rs_ts11 l Z a0 hw n0 h52 hWd [] X52.old b10 d14 kd14 (own_c 72 0) (own_c 72 1) (own_c 72 2) (own_c 72 3) (own_c 72 4) (own_c 72 5) (own_c 72 6) (own_c 72 7) (own_c 72 8) x0 (own_c 120 0) (.int 0) (.int 0) (.int 0) (.int 0) (.int 0) f57 f53 f54 f55 f56 (own_lapp own_kl72 (own_lapp q3 own_kl120)) ) (ow hw 121 rfl) (ow hw 122 rfl) (ow hw 124 rfl) (ow hw 123 rfl) (ow hw 56 rfl) (ow hw 125 rfl) (by decide) (lenOf pd__28_29Ljava_2flang_2fString_3b rfl) rfl rfl rfl (W := 1) rfl (by decide) (by decide) (by decide) (by decide) all0 rfl ?_
    intro T58 h58 v58 X58 K58 hQ58
    obtain ⟨r58, rfl, ge_r58, f59⟩ := hQ58
    show OGo _ _ _ _ T58 (mkF m 53 #[.val (.ref a), .val (.ref u)] [(.ref r58), (.ref a)])
    have f60 := q1.keep K3 nin0
    have f61 := f60.keep K4 nin0
    have f62 := f61.keep K9 nin0
    have f63 := f62.keep K10 nin0
    have f64 := f63.keep K14 (ninS (Nat.ne_of_lt (Nat.lt_of_lt_of_le (Nat.lt_of_lt_of_le q0.lt (Nat.le_trans (Nat.le_trans K3.1 K4.1) K9.1)) G10)) nin0)
    have f65 := f64.keep K19 nin0
    have f66 := f65.keep K28 (ninS (Nat.ne_of_lt (Nat.lt_of_lt_of_le (Nat.lt_of_lt_of_le q0.lt (Nat.le_trans (Nat.le_trans K3.1 K4.1) K9.1)) G10)) (ninS (Nat.ne_of_lt (Nat.lt_of_lt_of_le (Nat.lt_of_lt_of_le q0.lt (Nat.le_trans (Nat.le_trans (Nat.le_trans K3.1 K4.1) K9.1) K10.1)) ge_d14)) nin0))
    have f67 := f66.keep K39 (ninS (Nat.ne_of_lt (Nat.lt_of_lt_of_le (Nat.lt_of_lt_of_le q0.lt (Nat.le_trans (Nat.le_trans K3.1 K4.1) K9.1)) G10)) (ninS (Nat.ne_of_lt (Nat.lt_of_lt_of_le (Nat.lt_of_lt_of_le q0.lt (Nat.le_trans (Nat.le_trans (Nat.le_trans K3.1 K4.1) K9.1) K10.1)) ge_d14)) nin0))
    have f68 := f67.keep K44 nin0
    have f69 := f68.keep K52 (ninS (Nat.ne_of_lt (Nat.lt_of_lt_of_le (Nat.lt_of_lt_of_le q0.lt (Nat.le_trans (Nat.le_trans K3.1 K4.1) K9.1)) G10)) (ninS (Nat.ne_of_lt (Nat.lt_of_lt_of_le (Nat.lt_of_lt_of_le q0.lt (Nat.le_trans (Nat.le_trans (Nat.le_trans K3.1 K4.1) K9.1) K10.1)) ge_d14)) nin0))
    have f70 := f69.keep K58 nin0
    have f71 := q0.keep K3
    have f72 := f71.keep K4
    have f73 := f72.keep K9
    have f74 := f73.keep K10
    have f75 := f74.keep K14
    have f76 := f75.keep K19
    have f77 := f76.keep K28
    have f78 := f77.keep K39
    have f79 := f78.keep K44
    have f80 := f79.keep K52
    have f81 := f80.keep K58
    refine own_put X58 56 d8_53 (host := "") (Or.inl (ow hw 166 rfl)) Via.refl f70 f81 (Or.inr ⟨(ow hw 167 rfl), rfl, hnm⟩) (ow hw 36 rfl) (ty := (.object "java/lang/String")) (by decide) rfl rfl (om 2 rfl) rfl ?_
    intro T82 h82 X82 W82 K82 F82
    have f83 := f59.keep K82 (allS (Or.inr ⟨_, _, _, f81, by decide, (ow hw 36 rfl)⟩) all0)
    refine own_retV X82 d8_56 hret (by decide) (by decide) ?_
    exact ⟨_, rfl, (Nat.le_trans (Nat.le_trans (Nat.le_trans (Nat.le_trans (Nat.le_trans (Nat.le_trans (Nat.le_trans (Nat.le_trans (Nat.le_trans (Nat.le_trans K3.1 K4.1) K9.1) K10.1) K14.1) K19.1) K28.1) K39.1) K44.1) K52.1) ge_r58), F82, f83.top⟩
  · -- 2
    refine og_aloadN X0 1 d8_0 rfl rfl rfl ?_
    refine own_obj0 X0 4 (a := a) d8_1 (ow hw 41 rfl) (ow hw 17 rfl) (ow hw 18 rfl) rfl (W := 0) rfl (by decide) (by decide) rfl ?_
    intro T84 X85
    refine og_aloadN X85 5 d8_4 rfl rfl rfl ?_
    refine own_ldcO X85 7 (cap := 16) d8_5 own_ELne (ow hw 42 rfl) (own_wS hw) (by decide) (by decide) (by decide) (by decide) rfl ?_
    intro T86 h86 a86 X86 K86
    refine own_stat X86 10 (argsL := [(.ref u), (.ref a86)]) (rest := []) d8_7 (rm9 l Z a0 hw n0 h86 hWd [] X86.old u a86  ) (ow hw 45 rfl) (ow hw 46 rfl) (ow hw 47 rfl) (ow hw 48 rfl) (by decide) (lenOf pd__28Ljava_2flang_2fObject_3bLjava_2flang_2fString_3b_29Ljava_2flang_2fObject_3b rfl) rfl rfl rfl (W := 0) rfl (by decide) (by decide) (by decide) (by decide) all0 rfl ?_
    intro T87 h87 v87 X87 K87 hQ87
    obtain rfl := hQ87
    show OGo _ _ _ _ T87 (mkF m 10 #[.val (.ref a), .val (.ref u)] [(.ref u)])
    refine og_pop X87 11 d8_10 rfl rfl ?_
    refine og_aloadN X87 12 d8_11 rfl rfl rfl ?_
    have f88 := q2.exa.keep K86
    have f89 := f88.keep K87
    have f90 := q2.keep K86 all0
    have f91 := f90.keep K87 all0
    refine own_virt X87 15 (a := u) (argsL := []) (rest := []) d8_12 f89 (fun _ hZ => notFace_of_selects (args := #[]) (mvT hZ (ow hw 52 rfl))) (rs_em2 l Z a0 hw n0 h87 hWd [] X87.old u x0 x1 f91.top ) (ow hw 49 rfl) (ow hw 50 rfl) (ow hw 52 rfl) (ow hw 51 rfl) (ow hw 8 rfl) (ow hw 53 rfl) (by decide) (lenOf pd__28_29Z rfl) rfl rfl rfl (W := 0) rfl (by decide) (by decide) (by decide) (by decide) all0 rfl ?_
    intro T92 h92 v92 X92 K92 hQ92
    obtain rfl := hQ92
    show OGo _ _ _ _ T92 (mkF m 15 #[.val (.ref a), .val (.ref u)] [(.int 0)])
    refine og_ifY X92 28 d8_15 (XT.i0_eq_t (by decide)) (by decide) (by decide) ?_
    refine og_aloadN X92 29 d8_28 rfl rfl rfl ?_
    refine own_new X92 32 d8_29 (ow hw 54 rfl) (ow hw 55 rfl) (ow hw 56 rfl) (by decide) (by decide) rfl ?_
    intro T93 h93 b93 X93 K93 G93 U93 E93 D93
    have f94 : Fld Z h93 b93 "java/lang/AbstractStringBuilder" "value" "[B" .null := D93 (Or.inl (ow hw 69 rfl)) (ty := (.array .byte)) (by decide)
    have f95 : Fld Z h93 b93 "java/lang/AbstractStringBuilder" "coder" "B" (.int 0) := D93 (Or.inl (ow hw 71 rfl)) (ty := .byte) (by decide)
    have f96 : Fld Z h93 b93 "java/lang/AbstractStringBuilder" "count" "I" (.int 0) := D93 (Or.inl (ow hw 94 rfl)) (ty := .int) (by decide)
    refine og_dup X93 33 d8_32 rfl rfl ?_
    refine own_spec X93 36 (a := b93) (argsL := []) (rest := [(.ref b93), (.ref a)]) d8_33 rfl (rm11 l Z a0 hw n0 h93 hWd [] X93.old b93 .null (0 : Int32) (0 : Int32) E93 f94 f95 f96 (own_svb X93 (om 0 rfl))) (ow hw 57 rfl) (ow hw 58 rfl) (ow hw 56 rfl) (ow hw 59 rfl) (by decide) (lenOf pd__28_29V rfl) rfl rfl rfl (W := 2) rfl (by decide) (by decide) (by decide) (by decide) (allS (om 0 rfl) all0) rfl ?_
    intro T97 h97 v97 X97 K97 hQ97
    obtain ⟨d97, kd97, rfl, ge_d97, f98, f99, f100, f101⟩ := hQ97
    show OGo _ _ _ _ T97 (mkF m 36 #[.val (.ref a), .val (.ref u)] [(.ref b93), (.ref a)])
    refine own_ldcR X97 38 (cap := 36) (vs := [(.int (StrChars.lo8 (own_c 72 0))), (.int (StrChars.lo8 (own_c 72 1))), (.int (StrChars.lo8 (own_c 72 2))), (.int (StrChars.lo8 (own_c 72 3))), (.int (StrChars.lo8 (own_c 72 4))), (.int (StrChars.lo8 (own_c 72 5))), (.int (StrChars.lo8 (own_c 72 6))), (.int (StrChars.lo8 (own_c 72 7))), (.int (StrChars.lo8 (own_c 72 8)))]) (z := (9 : Int32)) d8_36 (om 1 rfl) (ow hw 72 rfl) (own_wS hw) ⟨by decide, own_kv72⟩ (by decide) rfl (by decide) (by decide) (by decide) (by decide) rfl ?_
    intro T102 h102 a102 b102 kb102 X102 K102 E102 C102 V102 A102 far102
    have f103 := own_mkStr (cs := [(own_c 72 0), (own_c 72 1), (own_c 72 2), (own_c 72 3), (own_c 72 4), (own_c 72 5), (own_c 72 6), (own_c 72 7), (own_c 72 8)]) (bs := [StrChars.lo8 (own_c 72 0), StrChars.lo8 (own_c 72 1), StrChars.lo8 (own_c 72 2), StrChars.lo8 (own_c 72 3), StrChars.lo8 (own_c 72 4), StrChars.lo8 (own_c 72 5), StrChars.lo8 (own_c 72 6), StrChars.lo8 (own_c 72 7), StrChars.lo8 (own_c 72 8)]) (n := 9) E102 C102 V102 A102 rfl own_kl72 rfl rfl (Nat.le_of_ble_eq_true rfl)
    have f104 := E93.keep K97
    have f105 := f104.keep K102
    have f106 := f98.keep K102 nin0
    have f107 := f99.keep K102 nin0
    have f108 := f100.keep K102 nin0
    have f109 := f101.keep K102 nin0
    have X110 := own_svB X102 f109 (own_tx16 hw) (Nat.le_trans (own_n0 X93) ge_d97) (Nat.le_trans (Nat.le_trans (Nat.le_trans (Nat.le_trans K86.1 K87.1) K92.1) K93.1) ge_d97)
    refine own_virt X110 41 (a := b93) (argsL := [(.ref a102)]) (rest := [(.ref a)]) d8_38 f105 (fun _ hZ => notFace_of_selects (args := #[]) (mvT hZ (ow hw 76 rfl))) (rs_sa9_0 l Z a0 hw n0 h102 hWd [] X110.old b93 a102 d97 kd97 (own_c 72 0) (own_c 72 1) (own_c 72 2) (own_c 72 3) (own_c 72 4) (own_c 72 5) (own_c 72 6) (own_c 72 7) (own_c 72 8) (.int 0) (.int 0) (.int 0) (.int 0) (.int 0) (.int 0) (.int 0) (.int 0) (.int 0) (.int 0) (.int 0) (.int 0) (.int 0) (.int 0) (.int 0) (.int 0) f103.top own_kl72 f105 f106 f107 f108 f109 (own_svb X102 (om 0 rfl)) (own_svb X110 (om 0 rfl))) (ow hw 73 rfl) (ow hw 74 rfl) (ow hw 76 rfl) (ow hw 75 rfl) (ow hw 56 rfl) (ow hw 77 rfl) (by decide) (lenOf pd__28Ljava_2flang_2fString_3b_29Ljava_2flang_2fStringBuilder_3b rfl) rfl rfl rfl (W := 1) rfl (by decide) (by decide) (by decide) (by decide) (allS (om 1 rfl) (allS (om 0 rfl) all0)) rfl ?_
    intro T111 h111 v111 X111 K111 hQ111
    obtain ⟨rfl, f112, f113, f114, f115⟩ := hQ111
    show OGo _ _ _ _ T111 (mkF m 41 #[.val (.ref a), .val (.ref u)] [(.ref b93), (.ref a)])
    refine og_aloadN X111 42 d8_41 rfl rfl rfl ?_
    have f116 := f105.keep K111
    have f117 := f91.keep K92 all0
    have f118 := f117.keep K93 all0
    have f119 := f118.keep K97 (allS (Or.inl (Nat.le_trans (Nat.le_trans (Nat.le_trans K86.1 K87.1) K92.1) G93)) all0)
    have f120 := f119.keep K102 all0
    have f121 := f120.keep K111 (allS (Or.inl (Nat.le_trans (Nat.le_trans (Nat.le_trans K86.1 K87.1) K92.1) G93)) (allS (Or.inl (Nat.le_trans (Nat.le_trans (Nat.le_trans (Nat.le_trans K86.1 K87.1) K92.1) K93.1) ge_d97)) all0))
    refine own_virt X111 45 (a := b93) (argsL := [(.ref u)]) (rest := [(.ref a)]) d8_42 f116 (fun _ hZ => notFace_of_selects (args := #[]) (mvT hZ (ow hw 76 rfl))) (rs_sa2_9 l Z a0 hw n0 h111 hWd [] X111.old b93 u d97 kd97 x0 x1 (.int (StrChars.lo8 (own_c 72 0))) (.int (StrChars.lo8 (own_c 72 1))) (.int (StrChars.lo8 (own_c 72 2))) (.int (StrChars.lo8 (own_c 72 3))) (.int (StrChars.lo8 (own_c 72 4))) (.int (StrChars.lo8 (own_c 72 5))) (.int (StrChars.lo8 (own_c 72 6))) (.int (StrChars.lo8 (own_c 72 7))) (.int (StrChars.lo8 (own_c 72 8))) (.int 0) (.int 0) (.int 0) (.int 0) (.int 0) (.int 0) (.int 0) f121.top q3 f116 f112 f113 f114 f115 (own_svb X111 (om 1 rfl)) (own_svb X111 (om 0 rfl))) (ow hw 73 rfl) (ow hw 74 rfl) (ow hw 76 rfl) (ow hw 75 rfl) (ow hw 56 rfl) (ow hw 77 rfl) (by decide) (lenOf pd__28Ljava_2flang_2fString_3b_29Ljava_2flang_2fStringBuilder_3b rfl) rfl rfl rfl (W := 1) rfl (by decide) (by decide) (by decide) (by decide) (allS (om 1 rfl) (allS (om 0 rfl) all0)) rfl ?_
    intro T122 h122 v122 X122 K122 hQ122
    obtain ⟨rfl, f123, f124, f125, f126⟩ := hQ122
    show OGo _ _ _ _ T122 (mkF m 45 #[.val (.ref a), .val (.ref u)] [(.ref b93), (.ref a)])
    refine own_ldcR X122 47 (cap := 4) (vs := [(.int (StrChars.lo8 (own_c 120 0)))]) (z := (1 : Int32)) d8_45 (om 2 rfl) (ow hw 120 rfl) (own_wS hw) ⟨by decide, own_kv120⟩ (by decide) rfl (by decide) (by decide) (by decide) (by decide) rfl ?_
    intro T127 h127 a127 b127 kb127 X127 K127 E127 C127 V127 A127 far127
    have f128 := own_mkStr (cs := [(own_c 120 0)]) (bs := [StrChars.lo8 (own_c 120 0)]) (n := 1) E127 C127 V127 A127 rfl own_kl120 rfl rfl (Nat.le_of_ble_eq_true rfl)
    have f129 := f116.keep K122
    have f130 := f129.keep K127
    have f131 := f123.keep K127 nin0
    have f132 := f124.keep K127 nin0
    have f133 := f125.keep K127 nin0
    have f134 := f126.keep K127 nin0
    refine own_virt X127 50 (a := b93) (argsL := [(.ref a127)]) (rest := [(.ref a)]) d8_47 f130 (fun _ hZ => notFace_of_selects (args := #[]) (mvT hZ (ow hw 76 rfl))) (rs_sa1_11 l Z a0 hw n0 h127 hWd [] X127.old b93 a127 d97 kd97 (own_c 120 0) (.int (StrChars.lo8 (own_c 72 0))) (.int (StrChars.lo8 (own_c 72 1))) (.int (StrChars.lo8 (own_c 72 2))) (.int (StrChars.lo8 (own_c 72 3))) (.int (StrChars.lo8 (own_c 72 4))) (.int (StrChars.lo8 (own_c 72 5))) (.int (StrChars.lo8 (own_c 72 6))) (.int (StrChars.lo8 (own_c 72 7))) (.int (StrChars.lo8 (own_c 72 8))) (.int (StrChars.lo8 x0)) (.int (StrChars.lo8 x1)) (.int 0) (.int 0) (.int 0) (.int 0) (.int 0) f128.top own_kl120 f130 f131 f132 f133 f134 (own_svb X127 (om 1 rfl)) (own_svb X127 (om 0 rfl))) (ow hw 73 rfl) (ow hw 74 rfl) (ow hw 76 rfl) (ow hw 75 rfl) (ow hw 56 rfl) (ow hw 77 rfl) (by decide) (lenOf pd__28Ljava_2flang_2fString_3b_29Ljava_2flang_2fStringBuilder_3b rfl) rfl rfl rfl (W := 1) rfl (by decide) (by decide) (by decide) (by decide) (allS (om 1 rfl) (allS (om 0 rfl) all0)) rfl ?_
    intro T135 h135 v135 X135 K135 hQ135
    obtain ⟨rfl, f136, f137, f138, f139⟩ := hQ135
    show OGo _ _ _ _ T135 (mkF m 50 #[.val (.ref a), .val (.ref u)] [(.ref b93), (.ref a)])
    have f140 := f130.keep K135
    refine own_virt X135 53 (a := b93) (argsL := []) (rest := [(.ref a)]) d8_50 f140 (fun _ hZ => notFace_of_selects (args := #[]) (mvT hZ (ow hw 124 rfl))) (rs_ts12 l Z a0 hw n0 h135 hWd [] X135.old b93 d97 kd97 (own_c 72 0) (own_c 72 1) (own_c 72 2) (own_c 72 3) (own_c 72 4) (own_c 72 5) (own_c 72 6) (own_c 72 7) (own_c 72 8) x0 x1 (own_c 120 0) (.int 0) (.int 0) (.int 0) (.int 0) f140 f136 f137 f138 f139 (own_lapp own_kl72 (own_lapp q3 own_kl120)) ) (ow hw 121 rfl) (ow hw 122 rfl) (ow hw 124 rfl) (ow hw 123 rfl) (ow hw 56 rfl) (ow hw 125 rfl) (by decide) (lenOf pd__28_29Ljava_2flang_2fString_3b rfl) rfl rfl rfl (W := 1) rfl (by decide) (by decide) (by decide) (by decide) all0 rfl ?_
    intro T141 h141 v141 X141 K141 hQ141
    obtain ⟨r141, rfl, ge_r141, f142⟩ := hQ141
    show OGo _ _ _ _ T141 (mkF m 53 #[.val (.ref a), .val (.ref u)] [(.ref r141), (.ref a)])
    have f143 := q1.keep K86 nin0
    have f144 := f143.keep K87 nin0
    have f145 := f144.keep K92 nin0
    have f146 := f145.keep K93 nin0
    have f147 := f146.keep K97 (ninS (Nat.ne_of_lt (Nat.lt_of_lt_of_le (Nat.lt_of_lt_of_le q0.lt (Nat.le_trans (Nat.le_trans K86.1 K87.1) K92.1)) G93)) nin0)
    have f148 := f147.keep K102 nin0
    have f149 := f148.keep K111 (ninS (Nat.ne_of_lt (Nat.lt_of_lt_of_le (Nat.lt_of_lt_of_le q0.lt (Nat.le_trans (Nat.le_trans K86.1 K87.1) K92.1)) G93)) (ninS (Nat.ne_of_lt (Nat.lt_of_lt_of_le (Nat.lt_of_lt_of_le q0.lt (Nat.le_trans (Nat.le_trans (Nat.le_trans K86.1 K87.1) K92.1) K93.1)) ge_d97)) nin0))
    have f150 := f149.keep K122 (ninS (Nat.ne_of_lt (Nat.lt_of_lt_of_le (Nat.lt_of_lt_of_le q0.lt (Nat.le_trans (Nat.le_trans K86.1 K87.1) K92.1)) G93)) (ninS (Nat.ne_of_lt (Nat.lt_of_lt_of_le (Nat.lt_of_lt_of_le q0.lt (Nat.le_trans (Nat.le_trans (Nat.le_trans K86.1 K87.1) K92.1) K93.1)) ge_d97)) nin0))
    have f151 := f150.keep K127 nin0
    have f152 := f151.keep K135 (ninS (Nat.ne_of_lt (Nat.lt_of_lt_of_le (Nat.lt_of_lt_of_le q0.lt (Nat.le_trans (Nat.le_trans K86.1 K87.1) K92.1)) G93)) (ninS (Nat.ne_of_lt (Nat.lt_of_lt_of_le (Nat.lt_of_lt_of_le q0.lt (Nat.le_trans (Nat.le_trans (Nat.le_trans K86.1 K87.1) K92.1) K93.1)) ge_d97)) nin0))
    have f153 := f152.keep K141 nin0
    have f154 := q0.keep K86
    have f155 := f154.keep K87
    have f156 := f155.keep K92
    have f157 := f156.keep K93
    have f158 := f157.keep K97
    have f159 := f158.keep K102
    have f160 := f159.keep K111
    have f161 := f160.keep K122
    have f162 := f161.keep K127
    have f163 := f162.keep K135
    have f164 := f163.keep K141
    refine own_put X141 56 d8_53 (host := "") (Or.inl (ow hw 166 rfl)) Via.refl f153 f164 (Or.inr ⟨(ow hw 167 rfl), rfl, hnm⟩) (ow hw 36 rfl) (ty := (.object "java/lang/String")) (by decide) rfl rfl (om 2 rfl) rfl ?_
    intro T165 h165 X165 W165 K165 F165
    have f166 := f142.keep K165 (allS (Or.inr ⟨_, _, _, f164, by decide, (ow hw 36 rfl)⟩) all0)
    refine own_retV X165 d8_56 hret (by decide) (by decide) ?_
    exact ⟨_, rfl, (Nat.le_trans (Nat.le_trans (Nat.le_trans (Nat.le_trans (Nat.le_trans (Nat.le_trans (Nat.le_trans (Nat.le_trans (Nat.le_trans (Nat.le_trans K86.1 K87.1) K92.1) K93.1) K97.1) K102.1) K111.1) K122.1) K127.1) K135.1) ge_r141), F165, f166.top⟩
  · -- 3
    refine og_aloadN X0 1 d8_0 rfl rfl rfl ?_
    refine own_obj0 X0 4 (a := a) d8_1 (ow hw 41 rfl) (ow hw 17 rfl) (ow hw 18 rfl) rfl (W := 0) rfl (by decide) (by decide) rfl ?_
    intro T167 X168
    refine og_aloadN X168 5 d8_4 rfl rfl rfl ?_
    refine own_ldcO X168 7 (cap := 16) d8_5 own_ELne (ow hw 42 rfl) (own_wS hw) (by decide) (by decide) (by decide) (by decide) rfl ?_
    intro T169 h169 a169 X169 K169
    refine own_stat X169 10 (argsL := [(.ref u), (.ref a169)]) (rest := []) d8_7 (rm9 l Z a0 hw n0 h169 hWd [] X169.old u a169  ) (ow hw 45 rfl) (ow hw 46 rfl) (ow hw 47 rfl) (ow hw 48 rfl) (by decide) (lenOf pd__28Ljava_2flang_2fObject_3bLjava_2flang_2fString_3b_29Ljava_2flang_2fObject_3b rfl) rfl rfl rfl (W := 0) rfl (by decide) (by decide) (by decide) (by decide) all0 rfl ?_
    intro T170 h170 v170 X170 K170 hQ170
    obtain rfl := hQ170
    show OGo _ _ _ _ T170 (mkF m 10 #[.val (.ref a), .val (.ref u)] [(.ref u)])
    refine og_pop X170 11 d8_10 rfl rfl ?_
    refine og_aloadN X170 12 d8_11 rfl rfl rfl ?_
    have f171 := q2.exa.keep K169
    have f172 := f171.keep K170
    have f173 := q2.keep K169 all0
    have f174 := f173.keep K170 all0
    refine own_virt X170 15 (a := u) (argsL := []) (rest := []) d8_12 f172 (fun _ hZ => notFace_of_selects (args := #[]) (mvT hZ (ow hw 52 rfl))) (rs_em3 l Z a0 hw n0 h170 hWd [] X170.old u x0 x1 x2 f174.top ) (ow hw 49 rfl) (ow hw 50 rfl) (ow hw 52 rfl) (ow hw 51 rfl) (ow hw 8 rfl) (ow hw 53 rfl) (by decide) (lenOf pd__28_29Z rfl) rfl rfl rfl (W := 0) rfl (by decide) (by decide) (by decide) (by decide) all0 rfl ?_
    intro T175 h175 v175 X175 K175 hQ175
    obtain rfl := hQ175
    show OGo _ _ _ _ T175 (mkF m 15 #[.val (.ref a), .val (.ref u)] [(.int 0)])
    refine og_ifY X175 28 d8_15 (XT.i0_eq_t (by decide)) (by decide) (by decide) ?_
    refine og_aloadN X175 29 d8_28 rfl rfl rfl ?_
    refine own_new X175 32 d8_29 (ow hw 54 rfl) (ow hw 55 rfl) (ow hw 56 rfl) (by decide) (by decide) rfl ?_
    intro T176 h176 b176 X176 K176 G176 U176 E176 D176
    have f177 : Fld Z h176 b176 "java/lang/AbstractStringBuilder" "value" "[B" .null := D176 (Or.inl (ow hw 69 rfl)) (ty := (.array .byte)) (by decide)
    have f178 : Fld Z h176 b176 "java/lang/AbstractStringBuilder" "coder" "B" (.int 0) := D176 (Or.inl (ow hw 71 rfl)) (ty := .byte) (by decide)
    have f179 : Fld Z h176 b176 "java/lang/AbstractStringBuilder" "count" "I" (.int 0) := D176 (Or.inl (ow hw 94 rfl)) (ty := .int) (by decide)
    refine og_dup X176 33 d8_32 rfl rfl ?_
    refine own_spec X176 36 (a := b176) (argsL := []) (rest := [(.ref b176), (.ref a)]) d8_33 rfl (rm11 l Z a0 hw n0 h176 hWd [] X176.old b176 .null (0 : Int32) (0 : Int32) E176 f177 f178 f179 (own_svb X176 (om 0 rfl))) (ow hw 57 rfl) (ow hw 58 rfl) (ow hw 56 rfl) (ow hw 59 rfl) (by decide) (lenOf pd__28_29V rfl) rfl rfl rfl (W := 2) rfl (by decide) (by decide) (by decide) (by decide) (allS (om 0 rfl) all0) rfl ?_
    intro T180 h180 v180 X180 K180 hQ180
    obtain ⟨d180, kd180, rfl, ge_d180, f181, f182, f183, f184⟩ := hQ180
    show OGo _ _ _ _ T180 (mkF m 36 #[.val (.ref a), .val (.ref u)] [(.ref b176), (.ref a)])
    refine own_ldcR X180 38 (cap := 36) (vs := [(.int (StrChars.lo8 (own_c 72 0))), (.int (StrChars.lo8 (own_c 72 1))), (.int (StrChars.lo8 (own_c 72 2))), (.int (StrChars.lo8 (own_c 72 3))), (.int (StrChars.lo8 (own_c 72 4))), (.int (StrChars.lo8 (own_c 72 5))), (.int (StrChars.lo8 (own_c 72 6))), (.int (StrChars.lo8 (own_c 72 7))), (.int (StrChars.lo8 (own_c 72 8)))]) (z := (9 : Int32)) d8_36 (om 1 rfl) (ow hw 72 rfl) (own_wS hw) ⟨by decide, own_kv72⟩ (by decide) rfl (by decide) (by decide) (by decide) (by decide) rfl ?_
    intro T185 h185 a185 b185 kb185 X185 K185 E185 C185 V185 A185 far185
    have f186 := own_mkStr (cs := [(own_c 72 0), (own_c 72 1), (own_c 72 2), (own_c 72 3), (own_c 72 4), (own_c 72 5), (own_c 72 6), (own_c 72 7), (own_c 72 8)]) (bs := [StrChars.lo8 (own_c 72 0), StrChars.lo8 (own_c 72 1), StrChars.lo8 (own_c 72 2), StrChars.lo8 (own_c 72 3), StrChars.lo8 (own_c 72 4), StrChars.lo8 (own_c 72 5), StrChars.lo8 (own_c 72 6), StrChars.lo8 (own_c 72 7), StrChars.lo8 (own_c 72 8)]) (n := 9) E185 C185 V185 A185 rfl own_kl72 rfl rfl (Nat.le_of_ble_eq_true rfl)
    have f187 := E176.keep K180
    have f188 := f187.keep K185
    have f189 := f181.keep K185 nin0
    have f190 := f182.keep K185 nin0
    have f191 := f183.keep K185 nin0
    have f192 := f184.keep K185 nin0
    have X193 := own_svB X185 f192 (own_tx16 hw) (Nat.le_trans (own_n0 X176) ge_d180) (Nat.le_trans (Nat.le_trans (Nat.le_trans (Nat.le_trans K169.1 K170.1) K175.1) K176.1) ge_d180)
    refine own_virt X193 41 (a := b176) (argsL := [(.ref a185)]) (rest := [(.ref a)]) d8_38 f188 (fun _ hZ => notFace_of_selects (args := #[]) (mvT hZ (ow hw 76 rfl))) (rs_sa9_0 l Z a0 hw n0 h185 hWd [] X193.old b176 a185 d180 kd180 (own_c 72 0) (own_c 72 1) (own_c 72 2) (own_c 72 3) (own_c 72 4) (own_c 72 5) (own_c 72 6) (own_c 72 7) (own_c 72 8) (.int 0) (.int 0) (.int 0) (.int 0) (.int 0) (.int 0) (.int 0) (.int 0) (.int 0) (.int 0) (.int 0) (.int 0) (.int 0) (.int 0) (.int 0) (.int 0) f186.top own_kl72 f188 f189 f190 f191 f192 (own_svb X185 (om 0 rfl)) (own_svb X193 (om 0 rfl))) (ow hw 73 rfl) (ow hw 74 rfl) (ow hw 76 rfl) (ow hw 75 rfl) (ow hw 56 rfl) (ow hw 77 rfl) (by decide) (lenOf pd__28Ljava_2flang_2fString_3b_29Ljava_2flang_2fStringBuilder_3b rfl) rfl rfl rfl (W := 1) rfl (by decide) (by decide) (by decide) (by decide) (allS (om 1 rfl) (allS (om 0 rfl) all0)) rfl ?_
    intro T194 h194 v194 X194 K194 hQ194
    obtain ⟨rfl, f195, f196, f197, f198⟩ := hQ194
    show OGo _ _ _ _ T194 (mkF m 41 #[.val (.ref a), .val (.ref u)] [(.ref b176), (.ref a)])
    refine og_aloadN X194 42 d8_41 rfl rfl rfl ?_
    have f199 := f188.keep K194
    have f200 := f174.keep K175 all0
    have f201 := f200.keep K176 all0
    have f202 := f201.keep K180 (allS (Or.inl (Nat.le_trans (Nat.le_trans (Nat.le_trans K169.1 K170.1) K175.1) G176)) all0)
    have f203 := f202.keep K185 all0
    have f204 := f203.keep K194 (allS (Or.inl (Nat.le_trans (Nat.le_trans (Nat.le_trans K169.1 K170.1) K175.1) G176)) (allS (Or.inl (Nat.le_trans (Nat.le_trans (Nat.le_trans (Nat.le_trans K169.1 K170.1) K175.1) K176.1) ge_d180)) all0))
    refine own_virt X194 45 (a := b176) (argsL := [(.ref u)]) (rest := [(.ref a)]) d8_42 f199 (fun _ hZ => notFace_of_selects (args := #[]) (mvT hZ (ow hw 76 rfl))) (rs_sa3_9 l Z a0 hw n0 h194 hWd [] X194.old b176 u d180 kd180 x0 x1 x2 (.int (StrChars.lo8 (own_c 72 0))) (.int (StrChars.lo8 (own_c 72 1))) (.int (StrChars.lo8 (own_c 72 2))) (.int (StrChars.lo8 (own_c 72 3))) (.int (StrChars.lo8 (own_c 72 4))) (.int (StrChars.lo8 (own_c 72 5))) (.int (StrChars.lo8 (own_c 72 6))) (.int (StrChars.lo8 (own_c 72 7))) (.int (StrChars.lo8 (own_c 72 8))) (.int 0) (.int 0) (.int 0) (.int 0) (.int 0) (.int 0) (.int 0) f204.top q3 f199 f195 f196 f197 f198 (own_svb X194 (om 1 rfl)) (own_svb X194 (om 0 rfl))) (ow hw 73 rfl) (ow hw 74 rfl) (ow hw 76 rfl) (ow hw 75 rfl) (ow hw 56 rfl) (ow hw 77 rfl) (by decide) (lenOf pd__28Ljava_2flang_2fString_3b_29Ljava_2flang_2fStringBuilder_3b rfl) rfl rfl rfl (W := 1) rfl (by decide) (by decide) (by decide) (by decide) (allS (om 1 rfl) (allS (om 0 rfl) all0)) rfl ?_
    intro T205 h205 v205 X205 K205 hQ205
    obtain ⟨rfl, f206, f207, f208, f209⟩ := hQ205
    show OGo _ _ _ _ T205 (mkF m 45 #[.val (.ref a), .val (.ref u)] [(.ref b176), (.ref a)])
    refine own_ldcR X205 47 (cap := 4) (vs := [(.int (StrChars.lo8 (own_c 120 0)))]) (z := (1 : Int32)) d8_45 (om 2 rfl) (ow hw 120 rfl) (own_wS hw) ⟨by decide, own_kv120⟩ (by decide) rfl (by decide) (by decide) (by decide) (by decide) rfl ?_
    intro T210 h210 a210 b210 kb210 X210 K210 E210 C210 V210 A210 far210
    have f211 := own_mkStr (cs := [(own_c 120 0)]) (bs := [StrChars.lo8 (own_c 120 0)]) (n := 1) E210 C210 V210 A210 rfl own_kl120 rfl rfl (Nat.le_of_ble_eq_true rfl)
    have f212 := f199.keep K205
    have f213 := f212.keep K210
    have f214 := f206.keep K210 nin0
    have f215 := f207.keep K210 nin0
    have f216 := f208.keep K210 nin0
    have f217 := f209.keep K210 nin0
    refine own_virt X210 50 (a := b176) (argsL := [(.ref a210)]) (rest := [(.ref a)]) d8_47 f213 (fun _ hZ => notFace_of_selects (args := #[]) (mvT hZ (ow hw 76 rfl))) (rs_sa1_12 l Z a0 hw n0 h210 hWd [] X210.old b176 a210 d180 kd180 (own_c 120 0) (.int (StrChars.lo8 (own_c 72 0))) (.int (StrChars.lo8 (own_c 72 1))) (.int (StrChars.lo8 (own_c 72 2))) (.int (StrChars.lo8 (own_c 72 3))) (.int (StrChars.lo8 (own_c 72 4))) (.int (StrChars.lo8 (own_c 72 5))) (.int (StrChars.lo8 (own_c 72 6))) (.int (StrChars.lo8 (own_c 72 7))) (.int (StrChars.lo8 (own_c 72 8))) (.int (StrChars.lo8 x0)) (.int (StrChars.lo8 x1)) (.int (StrChars.lo8 x2)) (.int 0) (.int 0) (.int 0) (.int 0) f211.top own_kl120 f213 f214 f215 f216 f217 (own_svb X210 (om 1 rfl)) (own_svb X210 (om 0 rfl))) (ow hw 73 rfl) (ow hw 74 rfl) (ow hw 76 rfl) (ow hw 75 rfl) (ow hw 56 rfl) (ow hw 77 rfl) (by decide) (lenOf pd__28Ljava_2flang_2fString_3b_29Ljava_2flang_2fStringBuilder_3b rfl) rfl rfl rfl (W := 1) rfl (by decide) (by decide) (by decide) (by decide) (allS (om 1 rfl) (allS (om 0 rfl) all0)) rfl ?_
    intro T218 h218 v218 X218 K218 hQ218
    obtain ⟨rfl, f219, f220, f221, f222⟩ := hQ218
    show OGo _ _ _ _ T218 (mkF m 50 #[.val (.ref a), .val (.ref u)] [(.ref b176), (.ref a)])
    have f223 := f213.keep K218
    refine own_virt X218 53 (a := b176) (argsL := []) (rest := [(.ref a)]) d8_50 f223 (fun _ hZ => notFace_of_selects (args := #[]) (mvT hZ (ow hw 124 rfl))) (rs_ts13 l Z a0 hw n0 h218 hWd [] X218.old b176 d180 kd180 (own_c 72 0) (own_c 72 1) (own_c 72 2) (own_c 72 3) (own_c 72 4) (own_c 72 5) (own_c 72 6) (own_c 72 7) (own_c 72 8) x0 x1 x2 (own_c 120 0) (.int 0) (.int 0) (.int 0) f223 f219 f220 f221 f222 (own_lapp own_kl72 (own_lapp q3 own_kl120)) ) (ow hw 121 rfl) (ow hw 122 rfl) (ow hw 124 rfl) (ow hw 123 rfl) (ow hw 56 rfl) (ow hw 125 rfl) (by decide) (lenOf pd__28_29Ljava_2flang_2fString_3b rfl) rfl rfl rfl (W := 1) rfl (by decide) (by decide) (by decide) (by decide) all0 rfl ?_
    intro T224 h224 v224 X224 K224 hQ224
    obtain ⟨r224, rfl, ge_r224, f225⟩ := hQ224
    show OGo _ _ _ _ T224 (mkF m 53 #[.val (.ref a), .val (.ref u)] [(.ref r224), (.ref a)])
    have f226 := q1.keep K169 nin0
    have f227 := f226.keep K170 nin0
    have f228 := f227.keep K175 nin0
    have f229 := f228.keep K176 nin0
    have f230 := f229.keep K180 (ninS (Nat.ne_of_lt (Nat.lt_of_lt_of_le (Nat.lt_of_lt_of_le q0.lt (Nat.le_trans (Nat.le_trans K169.1 K170.1) K175.1)) G176)) nin0)
    have f231 := f230.keep K185 nin0
    have f232 := f231.keep K194 (ninS (Nat.ne_of_lt (Nat.lt_of_lt_of_le (Nat.lt_of_lt_of_le q0.lt (Nat.le_trans (Nat.le_trans K169.1 K170.1) K175.1)) G176)) (ninS (Nat.ne_of_lt (Nat.lt_of_lt_of_le (Nat.lt_of_lt_of_le q0.lt (Nat.le_trans (Nat.le_trans (Nat.le_trans K169.1 K170.1) K175.1) K176.1)) ge_d180)) nin0))
    have f233 := f232.keep K205 (ninS (Nat.ne_of_lt (Nat.lt_of_lt_of_le (Nat.lt_of_lt_of_le q0.lt (Nat.le_trans (Nat.le_trans K169.1 K170.1) K175.1)) G176)) (ninS (Nat.ne_of_lt (Nat.lt_of_lt_of_le (Nat.lt_of_lt_of_le q0.lt (Nat.le_trans (Nat.le_trans (Nat.le_trans K169.1 K170.1) K175.1) K176.1)) ge_d180)) nin0))
    have f234 := f233.keep K210 nin0
    have f235 := f234.keep K218 (ninS (Nat.ne_of_lt (Nat.lt_of_lt_of_le (Nat.lt_of_lt_of_le q0.lt (Nat.le_trans (Nat.le_trans K169.1 K170.1) K175.1)) G176)) (ninS (Nat.ne_of_lt (Nat.lt_of_lt_of_le (Nat.lt_of_lt_of_le q0.lt (Nat.le_trans (Nat.le_trans (Nat.le_trans K169.1 K170.1) K175.1) K176.1)) ge_d180)) nin0))
    have f236 := f235.keep K224 nin0
    have f237 := q0.keep K169
    have f238 := f237.keep K170
    have f239 := f238.keep K175
    have f240 := f239.keep K176
    have f241 := f240.keep K180
    have f242 := f241.keep K185
    have f243 := f242.keep K194
    have f244 := f243.keep K205
    have f245 := f244.keep K210
    have f246 := f245.keep K218
    have f247 := f246.keep K224
    refine own_put X224 56 d8_53 (host := "") (Or.inl (ow hw 166 rfl)) Via.refl f236 f247 (Or.inr ⟨(ow hw 167 rfl), rfl, hnm⟩) (ow hw 36 rfl) (ty := (.object "java/lang/String")) (by decide) rfl rfl (om 2 rfl) rfl ?_
    intro T248 h248 X248 W248 K248 F248
    have f249 := f225.keep K248 (allS (Or.inr ⟨_, _, _, f247, by decide, (ow hw 36 rfl)⟩) all0)
    refine own_retV X248 d8_56 hret (by decide) (by decide) ?_
    exact ⟨_, rfl, (Nat.le_trans (Nat.le_trans (Nat.le_trans (Nat.le_trans (Nat.le_trans (Nat.le_trans (Nat.le_trans (Nat.le_trans (Nat.le_trans (Nat.le_trans K169.1 K170.1) K175.1) K176.1) K180.1) K185.1) K194.1) K205.1) K210.1) K218.1) ge_r224), F248, f249.top⟩
theorem rm35 (l : Launch) (Z : State) (a0 : Array Value) (hw : ∀ d ∈ tables_1, d.before a0 Z = true) (n0 : Nat) (h0 : Heap) (hWd : OWorld Z a0) (wc : List Jvm.Cond) (O0 : Old Z n0 h0) (a : Addr) (u : Addr) (q0 : Fld Z h0 a "com/example/synlock/synlock/LockKeys" "key" "Ljava/lang/String;" (.ref u)) :
    OMet l Z own_EL n0 (⟨"com/example/synlock/synlock/LockKeys", "key", "()Ljava/lang/String;"⟩ : MethodName) (Jvm.Cond.code (⟨"com/example/synlock/synlock/LockKeys", "key", "()Ljava/lang/String;"⟩ : MethodName) prog_4_method_2_code 1 (some (.object "java/lang/String")) :: wc) ({ frames := 0, cells := 0, slots := 0, locals := 0 } : Room) #[(.ref a)] h0 [] (fun vq hq => vq = some (.ref u)) := by
  refine own_enter #[.val (.ref a)] pn_com_example_synlock_synlock_LockKeys_key___Ljava_lang_String_ (ef_rm35 a u) hWd.1 O0 all0 ?_
  intro p e s m below meth c T0 X0 hnm hret
  refine og_aloadN X0 1 d35_0 rfl rfl rfl ?_
  refine own_get X0 4 d35_1 (host := "") (Or.inl (ow hw 166 rfl)) Via.refl q0 rfl ?_
  intro T1 X2
  refine own_retA X2 d35_4 hret rfl rfl (by decide) (by decide) ?_
  exact rfl
theorem rm_eqN (l : Launch) (Z : State) (a0 : Array Value) (hw : ∀ d ∈ tables_1, d.before a0 Z = true) (n0 : Nat) (h0 : Heap) (hWd : OWorld Z a0) (wc : List Jvm.Cond) (O0 : Old Z n0 h0) (a : Addr)  :
    OMet l Z own_EL n0 (⟨"com/example/synlock/synlock/LockKeys", "equals", "(Ljava/lang/Object;)Z"⟩ : MethodName) (Jvm.Cond.code (⟨"com/example/synlock/synlock/LockKeys", "equals", "(Ljava/lang/Object;)Z"⟩ : MethodName) prog_4_method_5_code 3 (some .boolean) :: wc) ({ frames := 0, cells := 0, slots := 0, locals := 0 } : Room) #[(.ref a), .null] h0 [] (fun vq hq => vq = some (.int 0)) := by
  refine own_enter #[.val (.ref a), .val .null, .unset] pn_com_example_synlock_synlock_LockKeys_equals__Ljava_lang_Object__Z (ef_rm_eqN a) hWd.1 O0 all0 ?_
  intro p e s m below meth c T0 X0 hnm hret
  refine og_aloadN X0 1 d34_0 rfl rfl rfl ?_
  refine own_instNull X0 4 d34_1 rfl ?_
  refine og_ifY X0 30 d34_4 (XT.i0_eq_t (by decide)) (by decide) (by decide) ?_
  refine og_iconst X0 31 (0 : Int32) d34_30 rfl rfl ?_
  refine own_retZ X0 d34_31 hret rfl (by decide) (by decide) ?_
  exact rfl
theorem rm_eqS (l : Launch) (Z : State) (a0 : Array Value) (hw : ∀ d ∈ tables_1, d.before a0 Z = true) (n0 : Nat) (h0 : Heap) (hWd : OWorld Z a0) (wc : List Jvm.Cond) (O0 : Old Z n0 h0) (a : Addr) (b : Addr) (q0 : Exa Z h0 b "java/lang/String") :
    OMet l Z own_EL n0 (⟨"com/example/synlock/synlock/LockKeys", "equals", "(Ljava/lang/Object;)Z"⟩ : MethodName) (Jvm.Cond.code (⟨"com/example/synlock/synlock/LockKeys", "equals", "(Ljava/lang/Object;)Z"⟩ : MethodName) prog_4_method_5_code 3 (some .boolean) :: wc) ({ frames := 0, cells := 0, slots := 0, locals := 0 } : Room) #[(.ref a), (.ref b)] h0 [] (fun vq hq => vq = some (.int 0)) := by
  refine own_enter #[.val (.ref a), .val (.ref b), .unset] pn_com_example_synlock_synlock_LockKeys_equals__Ljava_lang_Object__Z (ef_rm_eqS a b) hWd.1 O0 all0 ?_
  intro p e s m below meth c T0 X0 hnm hret
  refine og_aloadN X0 1 d34_0 rfl rfl rfl ?_
  refine own_instNo X0 4 d34_1 (ow hw 183 rfl) q0 (own_nsNo (ow hw 186 rfl) (ow hw 36 rfl) (NS.step (ow hw 186 rfl) (own_nsRoot (ow hw 187 rfl) (ow hw 36 rfl) (by decide)) (by decide)) (by decide)) rfl ?_
  intro T1 X2
  refine og_ifY X2 30 d34_4 (XT.i0_eq_t (by decide)) (by decide) (by decide) ?_
  refine og_iconst X2 31 (0 : Int32) d34_30 rfl rfl ?_
  refine own_retZ X2 d34_31 hret rfl (by decide) (by decide) ?_
  exact rfl
theorem rm_eqK (l : Launch) (Z : State) (a0 : Array Value) (hw : ∀ d ∈ tables_1, d.before a0 Z = true) (n0 : Nat) (h0 : Heap) (hWd : OWorld Z a0) (wc : List Jvm.Cond) (O0 : Old Z n0 h0) (a : Addr) (b : Addr) (u : Addr) (v : Addr) (cu : List Int32) (cv : List Int32) (q0 : Exa Z h0 b "com/example/synlock/synlock/LockKeys") (q1 : Fld Z h0 a "com/example/synlock/synlock/LockKeys" "key" "Ljava/lang/String;" (.ref u)) (q2 : Fld Z h0 b "com/example/synlock/synlock/LockKeys" "key" "Ljava/lang/String;" (.ref v)) (q3 : OStr Z h0 u cu h0.size) (q4 : OStr Z h0 v cv h0.size) :
    OMet l Z own_EL n0 (⟨"com/example/synlock/synlock/LockKeys", "equals", "(Ljava/lang/Object;)Z"⟩ : MethodName) (Jvm.Cond.code (⟨"com/example/synlock/synlock/LockKeys", "equals", "(Ljava/lang/Object;)Z"⟩ : MethodName) prog_4_method_5_code 3 (some .boolean) :: wc) ({ frames := 2, cells := 0, slots := 0, locals := 28 } : Room) #[(.ref a), (.ref b)] h0 [] (fun vq hq => vq = some (.int (own_eqb cu cv))) := by
  refine own_enter #[.val (.ref a), .val (.ref b), .unset] pn_com_example_synlock_synlock_LockKeys_equals__Ljava_lang_Object__Z (ef_rm_eqK a b u v cu cv) hWd.1 O0 all0 ?_
  intro p e s m below meth c T0 X0 hnm hret
  refine og_aloadN X0 1 d34_0 rfl rfl rfl ?_
  refine own_instY X0 4 d34_1 (ow hw 183 rfl) (Ins.self q0) rfl ?_
  intro T1 X2
  refine og_ifN X2 7 d34_4 (XT.i0_eq_f (by decide)) rfl ?_
  refine og_aloadN X2 8 d34_7 rfl rfl rfl ?_
  refine own_cast X2 11 d34_8 (ow hw 183 rfl) (Ins.self q0) rfl ?_
  intro T3 X4
  refine og_astoreN X4 12 #[.val (.ref a), .val (.ref b), .val (.ref b)] d34_11 rfl rfl rfl ?_
  refine og_aloadN X4 13 d34_12 rfl rfl rfl ?_
  refine own_get X4 16 d34_13 (host := "") (Or.inl (ow hw 166 rfl)) Via.refl q1 rfl ?_
  intro T5 X6
  refine og_aloadN X6 17 d34_16 rfl rfl rfl ?_
  refine own_get X6 20 d34_17 (host := "") (Or.inl (ow hw 166 rfl)) Via.refl q2 rfl ?_
  intro T7 X8
  refine own_strEq X8 23 d34_20 q3 q4 (own_wE hw) (ow hw 7 rfl) hWd.2.1 hWd.2.2 (ow hw 185 rfl) (ow hw 169 rfl) (ow hw 171 rfl) (ow hw 170 rfl) rfl (W := 0) rfl (by decide) (by decide) (by decide) (by decide) rfl ?_
  intro T9 X10
  by_cases hc11 : (own_eqb cu cv) = 0
  · -- (own_eqb cu cv) = 0
    refine og_ifY X10 30 d34_23 (XT.i0_eq_t hc11) (by decide) (by decide) ?_
    refine og_iconst X10 31 (0 : Int32) d34_30 rfl rfl ?_
    refine own_retZ X10 d34_31 hret rfl (by decide) (by decide) ?_
    rw [hc11]
  · -- not
    refine og_ifN X10 26 d34_23 (XT.i0_eq_f hc11) rfl ?_
    refine og_iconst X10 27 (1 : Int32) d34_26 rfl rfl ?_
    refine og_goto X10 31 d34_27 (by decide) (by decide) ?_
    refine own_retZ X10 d34_31 hret rfl (by decide) (by decide) ?_
    rw [own_eqb1 hc11]
theorem rm1 (l : Launch) (Z : State) (a0 : Array Value) (hw : ∀ d ∈ tables_1, d.before a0 Z = true) (n0 : Nat) (h0 : Heap) (hWd : OWorld Z a0) (wc : List Jvm.Cond) (O0 : Old Z n0 h0) (x : Int32) (y : Int32)  :
    OMet l Z own_EL n0 (⟨"com/example/synlock/synlock/LockKeysEqualsPinLaw", "make", "(II)Ljava/lang/String;"⟩ : MethodName) (Jvm.Cond.code (⟨"com/example/synlock/synlock/LockKeysEqualsPinLaw", "make", "(II)Ljava/lang/String;"⟩ : MethodName) method_3_code 6 (some (.object "java/lang/String")) :: wc) ({ frames := 4, cells := 3, slots := 10, locals := 66 } : Room) #[(.int x), (.int y)] h0 [] (fun vq hq => ∃ (r : Addr) (cs : List Int32), vq = some (.ref r) ∧ h0.size ≤ r ∧ OStr Z hq r cs hq.size ∧ (∀ c ∈ cs, ¬ c < 0 ∧ ¬ (255 : Int32) < c) ∧ ((∃ x, cs = [x]) ∨ (∃ x y, cs = [x, y]) ∨ (∃ x y z, cs = [x, y, z]))) := by
  refine own_enter #[.val (.int x), .val (.int y), .unset, .unset, .unset, .unset] pn_com_example_synlock_synlock_LockKeysEqualsPinLaw_make__II_Ljava_lang_String_ (ef_rm1 x y) hWd.1 O0 all0 ?_
  intro p e s m below meth c T0 X0 hnm hret
  refine og_iloadN X0 1 d1_0 rfl rfl ?_
  refine og_sipush X0 4 (255 : Int32) d1_1 rfl rfl ?_
  refine og_iand X0 5 d1_4 rfl ?_
  refine og_i2c8 X0 6 d1_5 rfl ?_
  refine og_istoreN X0 7 #[.val (.int x), .val (.int y), .val (.int (y &&& (255 : Int32))), .unset, .unset, .unset] d1_6 rfl rfl ?_
  refine og_iloadN X0 8 d1_7 rfl rfl ?_
  refine og_bipush X0 10 (8 : Int32) d1_8 rfl rfl ?_
  refine og_iushr X0 11 d1_10 rfl ?_
  refine og_sipush X0 14 (255 : Int32) d1_11 rfl rfl ?_
  refine og_iand X0 15 d1_14 rfl ?_
  refine og_i2c8 X0 16 d1_15 rfl ?_
  refine og_istoreN X0 17 #[.val (.int x), .val (.int y), .val (.int (y &&& (255 : Int32))), .val (.int ((XT.ushr y (8 : Int32)) &&& (255 : Int32))), .unset, .unset] d1_16 rfl rfl ?_
  refine og_iloadN X0 18 d1_17 rfl rfl ?_
  refine og_bipush X0 20 (16 : Int32) d1_18 rfl rfl ?_
  refine og_iushr X0 21 d1_20 rfl ?_
  refine og_sipush X0 24 (255 : Int32) d1_21 rfl rfl ?_
  refine og_iand X0 25 d1_24 rfl ?_
  refine og_i2c8 X0 26 d1_25 rfl ?_
  refine og_istore X0 28 #[.val (.int x), .val (.int y), .val (.int (y &&& (255 : Int32))), .val (.int ((XT.ushr y (8 : Int32)) &&& (255 : Int32))), .val (.int ((XT.ushr y (16 : Int32)) &&& (255 : Int32))), .unset] d1_26 rfl rfl ?_
  refine og_iloadN X0 29 d1_28 rfl rfl ?_
  refine og_iconst X0 30 (1 : Int32) d1_29 rfl rfl ?_
  by_cases hc1 : x = (1 : Int32)
  · -- x = (1 : Int32)
    refine og_icmpN X0 33 d1_30 (XT.ii_ne_f hc1) rfl ?_
    refine og_iconst X0 34 (1 : Int32) d1_33 rfl rfl ?_
    refine own_arr X0 36 d1_34 (ow hw 5 rfl) (by decide) (cap := 1) (by decide) (by decide) (by decide) (by decide) rfl ?_
    intro T2 h2 b2 kb2 X2 K2 G2 U2 A2
    have f3 : Arv Z h2 b2 kb2 .char (1 : Int32) [(.int 0)] (.int 0) := A2
    refine og_astore X2 38 #[.val (.int x), .val (.int y), .val (.int (y &&& (255 : Int32))), .val (.int ((XT.ushr y (8 : Int32)) &&& (255 : Int32))), .val (.int ((XT.ushr y (16 : Int32)) &&& (255 : Int32))), .val (.ref b2)] d1_36 rfl rfl rfl ?_
    refine og_aload X2 40 d1_38 rfl rfl rfl ?_
    refine og_iconst X2 41 (0 : Int32) d1_40 rfl rfl ?_
    refine og_iloadN X2 42 d1_41 rfl rfl ?_
    refine own_stC X2 43 d1_42 f3 (own_nc8 _) (by decide) (by decide) (i := 0) (by decide) (Nat.le_of_ble_eq_true rfl) (om 0 rfl) rfl ?_
    intro T4 h4 X4 W4 K4 A4
    have f5 : Arv Z h4 b2 kb2 .char (1 : Int32) [(.int (y &&& (255 : Int32)))] (.int 0) := A4
    refine own_new X4 46 d1_43 (ow hw 6 rfl) (ow hw 7 rfl) (ow hw 8 rfl) (by decide) (by decide) rfl ?_
    intro T6 h6 b6 X6 K6 G6 U6 E6 D6
    have f7 : Fld Z h6 b6 "java/lang/String" "coder" "B" (.int 0) := D6 (Or.inr (ow hw 32 rfl)) (ty := .byte) (by decide)
    have f8 : Fld Z h6 b6 "java/lang/String" "value" "[B" .null := D6 (Or.inr (ow hw 34 rfl)) (ty := (.array .byte)) (by decide)
    refine og_dup X6 47 d1_46 rfl rfl ?_
    refine og_aload X6 49 d1_47 rfl rfl rfl ?_
    have f9 := f5.keep K6 nin0
    have hp10 : ∀ c ∈ ([(y &&& (255 : Int32))] : List Int32), ¬ c < 0 ∧ ¬ (255 : Int32) < c := (own_lS (own_lat8 _) own_l0)
    refine own_specB X6 52 (a := b6) (argsL := [(.ref b2)]) (rest := [(.ref b6)]) d1_49 rfl (fun vm0 hZ => StrChars.Road.backV (W := 1) hZ (own_wV hw) (kI := 4) (ow hw 7 rfl) (cs := [(y &&& (255 : Int32))]) (n := 1) (own_svb X6 (om 0 rfl)).1 (own_n0 X6) E6 f8 f7 f9 (hWd.2.1.ext X6.old.2) hWd.2.2 rfl rfl (by decide) (by decide) hp10 rfl (by decide) (by decide)) (fun v h' L q => ⟨q.2.1, q.2.2.1⟩) (ow hw 9 rfl) (ow hw 10 rfl) (ow hw 11 rfl) (by decide) (lenOf pd__28_5bC_29V rfl) rfl rfl rfl (W := 1) rfl (by decide) (by decide) (allS (om 0 rfl) all0) rfl ?_
    intro T10 h10 v10 L10 X10 K10 hQ10
    obtain ⟨rfl, -, -, E10, C10, t10, k10, -, gt10, nt10, V10, A10⟩ := hQ10
    have f11 := own_mkStr E10 C10 V10 A10 rfl hp10 rfl rfl (Nat.le_of_ble_eq_true rfl)
    show OGo _ _ _ _ T10 (mkF m 52 #[.val (.int x), .val (.int y), .val (.int (y &&& (255 : Int32))), .val (.int ((XT.ushr y (8 : Int32)) &&& (255 : Int32))), .val (.int ((XT.ushr y (16 : Int32)) &&& (255 : Int32))), .val (.ref b2)] [(.ref b6)])
    refine own_retA X10 d1_52 hret rfl rfl (by decide) (by decide) ?_
    exact ⟨_, _, rfl, (Nat.le_trans (Nat.le_trans K2.1 K4.1) G6), f11.top, (own_lS (own_lat8 _) own_l0), Or.inl ⟨_, rfl⟩⟩
  · -- not
    refine og_icmpY X0 53 d1_30 (XT.ii_ne_t hc1) (by decide) (by decide) ?_
    refine og_iloadN X0 54 d1_53 rfl rfl ?_
    refine og_iconst X0 55 (2 : Int32) d1_54 rfl rfl ?_
    by_cases hc12 : x = (2 : Int32)
    · -- x = (2 : Int32)
      refine og_icmpN X0 58 d1_55 (XT.ii_ne_f hc12) rfl ?_
      refine og_iconst X0 59 (2 : Int32) d1_58 rfl rfl ?_
      refine own_arr X0 61 d1_59 (ow hw 5 rfl) (by decide) (cap := 2) (by decide) (by decide) (by decide) (by decide) rfl ?_
      intro T13 h13 b13 kb13 X13 K13 G13 U13 A13
      have f14 : Arv Z h13 b13 kb13 .char (2 : Int32) [(.int 0), (.int 0)] (.int 0) := A13
      refine og_astore X13 63 #[.val (.int x), .val (.int y), .val (.int (y &&& (255 : Int32))), .val (.int ((XT.ushr y (8 : Int32)) &&& (255 : Int32))), .val (.int ((XT.ushr y (16 : Int32)) &&& (255 : Int32))), .val (.ref b13)] d1_61 rfl rfl rfl ?_
      refine og_aload X13 65 d1_63 rfl rfl rfl ?_
      refine og_iconst X13 66 (0 : Int32) d1_65 rfl rfl ?_
      refine og_iloadN X13 67 d1_66 rfl rfl ?_
      refine own_stC X13 68 d1_67 f14 (own_nc8 _) (by decide) (by decide) (i := 0) (by decide) (Nat.le_of_ble_eq_true rfl) (om 0 rfl) rfl ?_
      intro T15 h15 X15 W15 K15 A15
      have f16 : Arv Z h15 b13 kb13 .char (2 : Int32) [(.int (y &&& (255 : Int32))), (.int 0)] (.int 0) := A15
      refine og_aload X15 70 d1_68 rfl rfl rfl ?_
      refine og_iconst X15 71 (1 : Int32) d1_70 rfl rfl ?_
      refine og_iloadN X15 72 d1_71 rfl rfl ?_
      refine own_stC X15 73 d1_72 f16 (own_nc8 _) (by decide) (by decide) (i := 1) (by decide) (Nat.le_of_ble_eq_true rfl) (om 0 rfl) rfl ?_
      intro T17 h17 X17 W17 K17 A17
      have f18 : Arv Z h17 b13 kb13 .char (2 : Int32) [(.int (y &&& (255 : Int32))), (.int ((XT.ushr y (8 : Int32)) &&& (255 : Int32)))] (.int 0) := A17
      refine own_new X17 76 d1_73 (ow hw 6 rfl) (ow hw 7 rfl) (ow hw 8 rfl) (by decide) (by decide) rfl ?_
      intro T19 h19 b19 X19 K19 G19 U19 E19 D19
      have f20 : Fld Z h19 b19 "java/lang/String" "coder" "B" (.int 0) := D19 (Or.inr (ow hw 32 rfl)) (ty := .byte) (by decide)
      have f21 : Fld Z h19 b19 "java/lang/String" "value" "[B" .null := D19 (Or.inr (ow hw 34 rfl)) (ty := (.array .byte)) (by decide)
      refine og_dup X19 77 d1_76 rfl rfl ?_
      refine og_aload X19 79 d1_77 rfl rfl rfl ?_
      have f22 := f18.keep K19 nin0
      have hp23 : ∀ c ∈ ([(y &&& (255 : Int32)), ((XT.ushr y (8 : Int32)) &&& (255 : Int32))] : List Int32), ¬ c < 0 ∧ ¬ (255 : Int32) < c := (own_lS (own_lat8 _) (own_lS (own_lat8 _) own_l0))
      refine own_specB X19 82 (a := b19) (argsL := [(.ref b13)]) (rest := [(.ref b19)]) d1_79 rfl (fun vm0 hZ => StrChars.Road.backV (W := 1) hZ (own_wV hw) (kI := 4) (ow hw 7 rfl) (cs := [(y &&& (255 : Int32)), ((XT.ushr y (8 : Int32)) &&& (255 : Int32))]) (n := 2) (own_svb X19 (om 0 rfl)).1 (own_n0 X19) E19 f21 f20 f22 (hWd.2.1.ext X19.old.2) hWd.2.2 rfl rfl (by decide) (by decide) hp23 rfl (by decide) (by decide)) (fun v h' L q => ⟨q.2.1, q.2.2.1⟩) (ow hw 9 rfl) (ow hw 10 rfl) (ow hw 11 rfl) (by decide) (lenOf pd__28_5bC_29V rfl) rfl rfl rfl (W := 1) rfl (by decide) (by decide) (allS (om 0 rfl) all0) rfl ?_
      intro T23 h23 v23 L23 X23 K23 hQ23
      obtain ⟨rfl, -, -, E23, C23, t23, k23, -, gt23, nt23, V23, A23⟩ := hQ23
      have f24 := own_mkStr E23 C23 V23 A23 rfl hp23 rfl rfl (Nat.le_of_ble_eq_true rfl)
      show OGo _ _ _ _ T23 (mkF m 82 #[.val (.int x), .val (.int y), .val (.int (y &&& (255 : Int32))), .val (.int ((XT.ushr y (8 : Int32)) &&& (255 : Int32))), .val (.int ((XT.ushr y (16 : Int32)) &&& (255 : Int32))), .val (.ref b13)] [(.ref b19)])
      refine own_retA X23 d1_82 hret rfl rfl (by decide) (by decide) ?_
      exact ⟨_, _, rfl, (Nat.le_trans (Nat.le_trans (Nat.le_trans K13.1 K15.1) K17.1) G19), f24.top, (own_lS (own_lat8 _) (own_lS (own_lat8 _) own_l0)), Or.inr (Or.inl ⟨_, _, rfl⟩)⟩
    · -- not
      refine og_icmpY X0 83 d1_55 (XT.ii_ne_t hc12) (by decide) (by decide) ?_
      refine og_iconst X0 84 (3 : Int32) d1_83 rfl rfl ?_
      refine own_arr X0 86 d1_84 (ow hw 5 rfl) (by decide) (cap := 3) (by decide) (by decide) (by decide) (by decide) rfl ?_
      intro T25 h25 b25 kb25 X25 K25 G25 U25 A25
      have f26 : Arv Z h25 b25 kb25 .char (3 : Int32) [(.int 0), (.int 0), (.int 0)] (.int 0) := A25
      refine og_astore X25 88 #[.val (.int x), .val (.int y), .val (.int (y &&& (255 : Int32))), .val (.int ((XT.ushr y (8 : Int32)) &&& (255 : Int32))), .val (.int ((XT.ushr y (16 : Int32)) &&& (255 : Int32))), .val (.ref b25)] d1_86 rfl rfl rfl ?_
      refine og_aload X25 90 d1_88 rfl rfl rfl ?_
      refine og_iconst X25 91 (0 : Int32) d1_90 rfl rfl ?_
      refine og_iloadN X25 92 d1_91 rfl rfl ?_
      refine own_stC X25 93 d1_92 f26 (own_nc8 _) (by decide) (by decide) (i := 0) (by decide) (Nat.le_of_ble_eq_true rfl) (om 0 rfl) rfl ?_
      intro T27 h27 X27 W27 K27 A27
      have f28 : Arv Z h27 b25 kb25 .char (3 : Int32) [(.int (y &&& (255 : Int32))), (.int 0), (.int 0)] (.int 0) := A27
      refine og_aload X27 95 d1_93 rfl rfl rfl ?_
      refine og_iconst X27 96 (1 : Int32) d1_95 rfl rfl ?_
      refine og_iloadN X27 97 d1_96 rfl rfl ?_
      refine own_stC X27 98 d1_97 f28 (own_nc8 _) (by decide) (by decide) (i := 1) (by decide) (Nat.le_of_ble_eq_true rfl) (om 0 rfl) rfl ?_
      intro T29 h29 X29 W29 K29 A29
      have f30 : Arv Z h29 b25 kb25 .char (3 : Int32) [(.int (y &&& (255 : Int32))), (.int ((XT.ushr y (8 : Int32)) &&& (255 : Int32))), (.int 0)] (.int 0) := A29
      refine og_aload X29 100 d1_98 rfl rfl rfl ?_
      refine og_iconst X29 101 (2 : Int32) d1_100 rfl rfl ?_
      refine og_iload X29 103 d1_101 rfl rfl ?_
      refine own_stC X29 104 d1_103 f30 (own_nc8 _) (by decide) (by decide) (i := 2) (by decide) (Nat.le_of_ble_eq_true rfl) (om 0 rfl) rfl ?_
      intro T31 h31 X31 W31 K31 A31
      have f32 : Arv Z h31 b25 kb25 .char (3 : Int32) [(.int (y &&& (255 : Int32))), (.int ((XT.ushr y (8 : Int32)) &&& (255 : Int32))), (.int ((XT.ushr y (16 : Int32)) &&& (255 : Int32)))] (.int 0) := A31
      refine own_new X31 107 d1_104 (ow hw 6 rfl) (ow hw 7 rfl) (ow hw 8 rfl) (by decide) (by decide) rfl ?_
      intro T33 h33 b33 X33 K33 G33 U33 E33 D33
      have f34 : Fld Z h33 b33 "java/lang/String" "coder" "B" (.int 0) := D33 (Or.inr (ow hw 32 rfl)) (ty := .byte) (by decide)
      have f35 : Fld Z h33 b33 "java/lang/String" "value" "[B" .null := D33 (Or.inr (ow hw 34 rfl)) (ty := (.array .byte)) (by decide)
      refine og_dup X33 108 d1_107 rfl rfl ?_
      refine og_aload X33 110 d1_108 rfl rfl rfl ?_
      have f36 := f32.keep K33 nin0
      have hp37 : ∀ c ∈ ([(y &&& (255 : Int32)), ((XT.ushr y (8 : Int32)) &&& (255 : Int32)), ((XT.ushr y (16 : Int32)) &&& (255 : Int32))] : List Int32), ¬ c < 0 ∧ ¬ (255 : Int32) < c := (own_lS (own_lat8 _) (own_lS (own_lat8 _) (own_lS (own_lat8 _) own_l0)))
      refine own_specB X33 113 (a := b33) (argsL := [(.ref b25)]) (rest := [(.ref b33)]) d1_110 rfl (fun vm0 hZ => StrChars.Road.backV (W := 1) hZ (own_wV hw) (kI := 4) (ow hw 7 rfl) (cs := [(y &&& (255 : Int32)), ((XT.ushr y (8 : Int32)) &&& (255 : Int32)), ((XT.ushr y (16 : Int32)) &&& (255 : Int32))]) (n := 3) (own_svb X33 (om 0 rfl)).1 (own_n0 X33) E33 f35 f34 f36 (hWd.2.1.ext X33.old.2) hWd.2.2 rfl rfl (by decide) (by decide) hp37 rfl (by decide) (by decide)) (fun v h' L q => ⟨q.2.1, q.2.2.1⟩) (ow hw 9 rfl) (ow hw 10 rfl) (ow hw 11 rfl) (by decide) (lenOf pd__28_5bC_29V rfl) rfl rfl rfl (W := 1) rfl (by decide) (by decide) (allS (om 0 rfl) all0) rfl ?_
      intro T37 h37 v37 L37 X37 K37 hQ37
      obtain ⟨rfl, -, -, E37, C37, t37, k37, -, gt37, nt37, V37, A37⟩ := hQ37
      have f38 := own_mkStr E37 C37 V37 A37 rfl hp37 rfl rfl (Nat.le_of_ble_eq_true rfl)
      show OGo _ _ _ _ T37 (mkF m 113 #[.val (.int x), .val (.int y), .val (.int (y &&& (255 : Int32))), .val (.int ((XT.ushr y (8 : Int32)) &&& (255 : Int32))), .val (.int ((XT.ushr y (16 : Int32)) &&& (255 : Int32))), .val (.ref b25)] [(.ref b33)])
      refine own_retA X37 d1_113 hret rfl rfl (by decide) (by decide) ?_
      exact ⟨_, _, rfl, (Nat.le_trans (Nat.le_trans (Nat.le_trans (Nat.le_trans K25.1 K27.1) K29.1) K31.1) G33), f38.top, (own_lS (own_lat8 _) (own_lS (own_lat8 _) (own_lS (own_lat8 _) own_l0))), Or.inr (Or.inr ⟨_, _, _, rfl⟩)⟩
theorem rm0 (l : Launch) (Z : State) (a0 : Array Value) (hw : ∀ d ∈ tables_1, d.before a0 Z = true) (n0 : Nat) (h0 : Heap) (hWd : OWorld Z a0) (wc : List Jvm.Cond) (O0 : Old Z n0 h0) (pl : Int32) (pa : Int32) (pb : Int32) (pm : Int32)  :
    OMet l Z own_EL n0 x (Jvm.Cond.code x code maxLocals ret :: wc) room_1 #[(.int pl), (.int pa), (.int pb), (.int pm)] h0 [] (fun vq hq => vq = some (.int 1)) := by
  refine own_enter #[.val (.int pl), .val (.int pa), .val (.int pb), .val (.int pm), .unset, .unset, .unset, .unset, .unset, .unset, .unset, .unset] pn_com_example_synlock_synlock_LockKeysEqualsPinLaw_law__IIII_Z (ef_rm0 pl pa pb pm) hWd.1 O0 all0 ?_
  intro p e s m below meth c T0 X0 hnm hret
  refine og_iloadN X0 1 at_0 rfl rfl ?_
  refine og_iconst X0 2 (3 : Int32) at_1 rfl rfl ?_
  refine og_iand X0 3 at_2 rfl ?_
  refine og_iconst X0 4 (3 : Int32) at_3 rfl rfl ?_
  refine og_irem X0 5 at_4 (by decide) rfl ?_
  refine og_iconst X0 6 (1 : Int32) at_5 rfl rfl ?_
  refine og_iadd X0 7 at_6 rfl ?_
  refine og_istore X0 9 #[.val (.int pl), .val (.int pa), .val (.int pb), .val (.int pm), .val (.int (((pl &&& (3 : Int32)) % (3 : Int32)) + (1 : Int32))), .unset, .unset, .unset, .unset, .unset, .unset, .unset] at_7 rfl rfl ?_
  refine og_iloadN X0 10 at_9 rfl rfl ?_
  refine og_iconst X0 11 (2 : Int32) at_10 rfl rfl ?_
  refine og_iushr X0 12 at_11 rfl ?_
  refine og_iconst X0 13 (3 : Int32) at_12 rfl rfl ?_
  refine og_iand X0 14 at_13 rfl ?_
  refine og_iconst X0 15 (3 : Int32) at_14 rfl rfl ?_
  refine og_irem X0 16 at_15 (by decide) rfl ?_
  refine og_iconst X0 17 (1 : Int32) at_16 rfl rfl ?_
  refine og_iadd X0 18 at_17 rfl ?_
  refine og_istore X0 20 #[.val (.int pl), .val (.int pa), .val (.int pb), .val (.int pm), .val (.int (((pl &&& (3 : Int32)) % (3 : Int32)) + (1 : Int32))), .val (.int ((((XT.ushr pl (2 : Int32)) &&& (3 : Int32)) % (3 : Int32)) + (1 : Int32))), .unset, .unset, .unset, .unset, .unset, .unset] at_18 rfl rfl ?_
  refine og_iloadN X0 21 at_20 rfl rfl ?_
  refine own_ldcI X0 23 (v := (2147483647 : Int32)) at_21 (ow hw 0 rfl) rfl ?_
  refine og_iand X0 24 at_23 rfl ?_
  refine og_bipush X0 26 (6 : Int32) at_24 rfl rfl ?_
  refine og_irem X0 27 at_26 (by decide) rfl ?_
  refine og_istore X0 29 #[.val (.int pl), .val (.int pa), .val (.int pb), .val (.int pm), .val (.int (((pl &&& (3 : Int32)) % (3 : Int32)) + (1 : Int32))), .val (.int ((((XT.ushr pl (2 : Int32)) &&& (3 : Int32)) % (3 : Int32)) + (1 : Int32))), .val (.int ((pm &&& (2147483647 : Int32)) % (6 : Int32))), .unset, .unset, .unset, .unset, .unset] at_27 rfl rfl ?_
  refine og_iload X0 31 at_29 rfl rfl ?_
  refine og_iloadN X0 32 at_31 rfl rfl ?_
  refine own_stat X0 35 (argsL := [(.int (((pl &&& (3 : Int32)) % (3 : Int32)) + (1 : Int32))), (.int pa)]) (rest := []) at_32 (rm1 l Z a0 hw n0 h0 hWd [] X0.old (((pl &&& (3 : Int32)) % (3 : Int32)) + (1 : Int32)) pa  ) (ow hw 1 rfl) (ow hw 2 rfl) (ow hw 3 rfl) (ow hw 4 rfl) (by decide) (lenOf pd__28II_29Ljava_2flang_2fString_3b rfl) rfl rfl rfl (W := 0) rfl (by decide) (by decide) (by decide) (by decide) all0 rfl ?_
  intro T1 h1 v1 X1 K1 hQ1
  obtain ⟨r1, cs1, rfl, ge_r1, f2, f3, f4⟩ := hQ1
  show OGo _ _ _ _ T1 (mkF m 35 #[.val (.int pl), .val (.int pa), .val (.int pb), .val (.int pm), .val (.int (((pl &&& (3 : Int32)) % (3 : Int32)) + (1 : Int32))), .val (.int ((((XT.ushr pl (2 : Int32)) &&& (3 : Int32)) % (3 : Int32)) + (1 : Int32))), .val (.int ((pm &&& (2147483647 : Int32)) % (6 : Int32))), .unset, .unset, .unset, .unset, .unset] [(.ref r1)])
  refine og_astore X1 37 #[.val (.int pl), .val (.int pa), .val (.int pb), .val (.int pm), .val (.int (((pl &&& (3 : Int32)) % (3 : Int32)) + (1 : Int32))), .val (.int ((((XT.ushr pl (2 : Int32)) &&& (3 : Int32)) % (3 : Int32)) + (1 : Int32))), .val (.int ((pm &&& (2147483647 : Int32)) % (6 : Int32))), .val (.ref r1), .unset, .unset, .unset, .unset] at_35 rfl rfl rfl ?_
  refine og_iload X1 39 at_37 rfl rfl ?_
  refine og_iload X1 41 at_39 rfl rfl ?_
  refine og_iconst X1 42 (1 : Int32) at_41 rfl rfl ?_
  by_cases hc5 : ((pm &&& (2147483647 : Int32)) % (6 : Int32)) = (1 : Int32)
  · -- ((pm &&& (2147483647 : Int32)) % (6 : Int32)) = (1 : Int32)
    refine og_icmpN X1 45 at_42 (XT.ii_ne_f hc5) rfl ?_
    refine og_iloadN X1 46 at_45 rfl rfl ?_
    refine og_goto X1 50 at_46 (by decide) (by decide) ?_
    refine own_stat X1 53 (argsL := [(.int ((((XT.ushr pl (2 : Int32)) &&& (3 : Int32)) % (3 : Int32)) + (1 : Int32))), (.int pa)]) (rest := []) at_50 (rm1 l Z a0 hw n0 h1 hWd [] X1.old ((((XT.ushr pl (2 : Int32)) &&& (3 : Int32)) % (3 : Int32)) + (1 : Int32)) pa  ) (ow hw 1 rfl) (ow hw 2 rfl) (ow hw 3 rfl) (ow hw 4 rfl) (by decide) (lenOf pd__28II_29Ljava_2flang_2fString_3b rfl) rfl rfl rfl (W := 0) rfl (by decide) (by decide) (by decide) (by decide) all0 rfl ?_
    intro T6 h6 v6 X6 K6 hQ6
    obtain ⟨r6, cs6, rfl, ge_r6, f7, f8, f9⟩ := hQ6
    show OGo _ _ _ _ T6 (mkF m 53 #[.val (.int pl), .val (.int pa), .val (.int pb), .val (.int pm), .val (.int (((pl &&& (3 : Int32)) % (3 : Int32)) + (1 : Int32))), .val (.int ((((XT.ushr pl (2 : Int32)) &&& (3 : Int32)) % (3 : Int32)) + (1 : Int32))), .val (.int ((pm &&& (2147483647 : Int32)) % (6 : Int32))), .val (.ref r1), .unset, .unset, .unset, .unset] [(.ref r6)])
    refine og_astore X6 55 #[.val (.int pl), .val (.int pa), .val (.int pb), .val (.int pm), .val (.int (((pl &&& (3 : Int32)) % (3 : Int32)) + (1 : Int32))), .val (.int ((((XT.ushr pl (2 : Int32)) &&& (3 : Int32)) % (3 : Int32)) + (1 : Int32))), .val (.int ((pm &&& (2147483647 : Int32)) % (6 : Int32))), .val (.ref r1), .val (.ref r6), .unset, .unset, .unset] at_53 rfl rfl rfl ?_
    refine own_new X6 58 at_55 (ow hw 35 rfl) (ow hw 36 rfl) (ow hw 37 rfl) (by decide) (by decide) rfl ?_
    intro T10 h10 b10 X10 K10 G10 U10 E10 D10
    have f11 : Fld Z h10 b10 "com/example/synlock/synlock/LockKeys" "key" "Ljava/lang/String;" .null := D10 (Or.inr (ow hw 167 rfl)) (ty := (.object "java/lang/String")) (by decide)
    refine og_dup X10 59 at_58 rfl rfl ?_
    refine og_aload X10 61 at_59 rfl rfl rfl ?_
    have f12 := f2.keep K6 all0
    have f13 := f12.keep K10 all0
    refine own_spec X10 64 (a := b10) (argsL := [(.ref r1)]) (rest := [(.ref b10)]) at_61 rfl (rm_lk l Z a0 hw n0 h10 hWd [] X10.old b10 r1 cs1 E10 f11 f13.top f3 f4 (own_svb X10 (om 0 rfl))) (ow hw 38 rfl) (ow hw 39 rfl) (ow hw 37 rfl) (ow hw 40 rfl) (by decide) (lenOf pd__28Ljava_2flang_2fString_3b_29V rfl) rfl rfl rfl (W := 1) rfl (by decide) (by decide) (by decide) (by decide) (allS (om 0 rfl) all0) rfl ?_
    intro T14 h14 v14 X14 K14 hQ14
    obtain ⟨k14, rfl, ge_k14, f15, f16⟩ := hQ14
    show OGo _ _ _ _ T14 (mkF m 64 #[.val (.int pl), .val (.int pa), .val (.int pb), .val (.int pm), .val (.int (((pl &&& (3 : Int32)) % (3 : Int32)) + (1 : Int32))), .val (.int ((((XT.ushr pl (2 : Int32)) &&& (3 : Int32)) % (3 : Int32)) + (1 : Int32))), .val (.int ((pm &&& (2147483647 : Int32)) % (6 : Int32))), .val (.ref r1), .val (.ref r6), .unset, .unset, .unset] [(.ref b10)])
    refine og_astore X14 66 #[.val (.int pl), .val (.int pa), .val (.int pb), .val (.int pm), .val (.int (((pl &&& (3 : Int32)) % (3 : Int32)) + (1 : Int32))), .val (.int ((((XT.ushr pl (2 : Int32)) &&& (3 : Int32)) % (3 : Int32)) + (1 : Int32))), .val (.int ((pm &&& (2147483647 : Int32)) % (6 : Int32))), .val (.ref r1), .val (.ref r6), .val (.ref b10), .unset, .unset] at_64 rfl rfl rfl ?_
    refine og_iload X14 68 at_66 rfl rfl ?_
    refine og_iconst X14 69 (1 : Int32) at_68 rfl rfl ?_
    by_cases hc17 : (1 : Int32) < ((pm &&& (2147483647 : Int32)) % (6 : Int32))
    · -- (1 : Int32) < ((pm &&& (2147483647 : Int32)) % (6 : Int32))
      refine og_icmpY X14 95 at_69 (XT.ii_gt_t hc17) (by decide) (by decide) ?_
      refine og_iload X14 97 at_95 rfl rfl ?_
      refine og_iconst X14 98 (2 : Int32) at_97 rfl rfl ?_
      by_cases hc18 : ((pm &&& (2147483647 : Int32)) % (6 : Int32)) = (2 : Int32)
      · -- ((pm &&& (2147483647 : Int32)) % (6 : Int32)) = (2 : Int32)
        refine og_icmpN X14 101 at_98 (XT.ii_ne_f hc18) rfl ?_
        refine og_aconstNull X14 102 at_101 rfl ?_
        refine og_astore X14 104 #[.val (.int pl), .val (.int pa), .val (.int pb), .val (.int pm), .val (.int (((pl &&& (3 : Int32)) % (3 : Int32)) + (1 : Int32))), .val (.int ((((XT.ushr pl (2 : Int32)) &&& (3 : Int32)) % (3 : Int32)) + (1 : Int32))), .val (.int ((pm &&& (2147483647 : Int32)) % (6 : Int32))), .val (.ref r1), .val (.ref r6), .val (.ref b10), .val .null, .unset] at_102 rfl rfl rfl ?_
        refine og_iconst X14 105 (0 : Int32) at_104 rfl rfl ?_
        refine og_istore X14 107 #[.val (.int pl), .val (.int pa), .val (.int pb), .val (.int pm), .val (.int (((pl &&& (3 : Int32)) % (3 : Int32)) + (1 : Int32))), .val (.int ((((XT.ushr pl (2 : Int32)) &&& (3 : Int32)) % (3 : Int32)) + (1 : Int32))), .val (.int ((pm &&& (2147483647 : Int32)) % (6 : Int32))), .val (.ref r1), .val (.ref r6), .val (.ref b10), .val .null, .val (.int 0)] at_105 rfl rfl ?_
        refine og_goto X14 152 at_107 (by decide) (by decide) ?_
        refine og_aload X14 154 at_152 rfl rfl rfl ?_
        refine og_aload X14 156 at_154 rfl rfl rfl ?_
        have f19 := E10.keep K14
        refine own_virt X14 159 (a := b10) (argsL := [.null]) (rest := []) at_156 f19 (fun _ hZ => notFace_of_selects (args := #[]) (mvT hZ (ow hw 181 rfl))) (rm_eqN l Z a0 hw n0 h14 hWd [] X14.old b10  ) (ow hw 178 rfl) (ow hw 179 rfl) (ow hw 181 rfl) (ow hw 180 rfl) (ow hw 37 rfl) (ow hw 182 rfl) (by decide) (lenOf pd__28Ljava_2flang_2fObject_3b_29Z rfl) rfl rfl rfl (W := 0) rfl (by decide) (by decide) (by decide) (by decide) all0 rfl ?_
        intro T20 h20 v20 X20 K20 hQ20
        obtain rfl := hQ20
        show OGo _ _ _ _ T20 (mkF m 159 #[.val (.int pl), .val (.int pa), .val (.int pb), .val (.int pm), .val (.int (((pl &&& (3 : Int32)) % (3 : Int32)) + (1 : Int32))), .val (.int ((((XT.ushr pl (2 : Int32)) &&& (3 : Int32)) % (3 : Int32)) + (1 : Int32))), .val (.int ((pm &&& (2147483647 : Int32)) % (6 : Int32))), .val (.ref r1), .val (.ref r6), .val (.ref b10), .val .null, .val (.int 0)] [(.int 0)])
        refine og_iload X20 161 at_159 rfl rfl ?_
        refine og_icmpN X20 164 at_161 (XT.ii_ne_f (by decide)) rfl ?_
        refine og_iconst X20 165 (1 : Int32) at_164 rfl rfl ?_
        refine og_goto X20 169 at_165 (by decide) (by decide) ?_
        refine own_retZ X20 at_169 hret rfl (by decide) (by decide) ?_
        exact rfl
      · -- not
        refine og_icmpY X14 110 at_98 (XT.ii_ne_t hc18) (by decide) (by decide) ?_
        refine og_iload X14 112 at_110 rfl rfl ?_
        refine og_iconst X14 113 (3 : Int32) at_112 rfl rfl ?_
        by_cases hc21 : ((pm &&& (2147483647 : Int32)) % (6 : Int32)) = (3 : Int32)
        · -- ((pm &&& (2147483647 : Int32)) % (6 : Int32)) = (3 : Int32)
          refine og_icmpN X14 116 at_113 (XT.ii_ne_f hc21) rfl ?_
          refine og_aload X14 118 at_116 rfl rfl rfl ?_
          have f22 := E10.keep K14
          refine own_virt X14 121 (a := b10) (argsL := []) (rest := []) at_118 f22 (fun _ hZ => notFace_of_selects (args := #[]) (mvT hZ (ow hw 191 rfl))) (rm35 l Z a0 hw n0 h14 hWd [] X14.old b10 k14 f15 ) (ow hw 188 rfl) (ow hw 189 rfl) (ow hw 191 rfl) (ow hw 190 rfl) (ow hw 37 rfl) (ow hw 192 rfl) (by decide) (lenOf pd__28_29Ljava_2flang_2fString_3b rfl) rfl rfl rfl (W := 0) rfl (by decide) (by decide) (by decide) (by decide) all0 rfl ?_
          intro T23 h23 v23 X23 K23 hQ23
          obtain rfl := hQ23
          show OGo _ _ _ _ T23 (mkF m 121 #[.val (.int pl), .val (.int pa), .val (.int pb), .val (.int pm), .val (.int (((pl &&& (3 : Int32)) % (3 : Int32)) + (1 : Int32))), .val (.int ((((XT.ushr pl (2 : Int32)) &&& (3 : Int32)) % (3 : Int32)) + (1 : Int32))), .val (.int ((pm &&& (2147483647 : Int32)) % (6 : Int32))), .val (.ref r1), .val (.ref r6), .val (.ref b10), .unset, .unset] [(.ref k14)])
          refine og_astore X23 123 #[.val (.int pl), .val (.int pa), .val (.int pb), .val (.int pm), .val (.int (((pl &&& (3 : Int32)) % (3 : Int32)) + (1 : Int32))), .val (.int ((((XT.ushr pl (2 : Int32)) &&& (3 : Int32)) % (3 : Int32)) + (1 : Int32))), .val (.int ((pm &&& (2147483647 : Int32)) % (6 : Int32))), .val (.ref r1), .val (.ref r6), .val (.ref b10), .val (.ref k14), .unset] at_121 rfl rfl rfl ?_
          refine og_iconst X23 124 (0 : Int32) at_123 rfl rfl ?_
          refine og_istore X23 126 #[.val (.int pl), .val (.int pa), .val (.int pb), .val (.int pm), .val (.int (((pl &&& (3 : Int32)) % (3 : Int32)) + (1 : Int32))), .val (.int ((((XT.ushr pl (2 : Int32)) &&& (3 : Int32)) % (3 : Int32)) + (1 : Int32))), .val (.int ((pm &&& (2147483647 : Int32)) % (6 : Int32))), .val (.ref r1), .val (.ref r6), .val (.ref b10), .val (.ref k14), .val (.int 0)] at_124 rfl rfl ?_
          refine og_goto X23 152 at_126 (by decide) (by decide) ?_
          refine og_aload X23 154 at_152 rfl rfl rfl ?_
          refine og_aload X23 156 at_154 rfl rfl rfl ?_
          have f24 := f22.keep K23
          have f25 := f16.exa.keep K23
          refine own_virt X23 159 (a := b10) (argsL := [(.ref k14)]) (rest := []) at_156 f24 (fun _ hZ => notFace_of_selects (args := #[]) (mvT hZ (ow hw 181 rfl))) (rm_eqS l Z a0 hw n0 h23 hWd [] X23.old b10 k14 f25 ) (ow hw 178 rfl) (ow hw 179 rfl) (ow hw 181 rfl) (ow hw 180 rfl) (ow hw 37 rfl) (ow hw 182 rfl) (by decide) (lenOf pd__28Ljava_2flang_2fObject_3b_29Z rfl) rfl rfl rfl (W := 0) rfl (by decide) (by decide) (by decide) (by decide) all0 rfl ?_
          intro T26 h26 v26 X26 K26 hQ26
          obtain rfl := hQ26
          show OGo _ _ _ _ T26 (mkF m 159 #[.val (.int pl), .val (.int pa), .val (.int pb), .val (.int pm), .val (.int (((pl &&& (3 : Int32)) % (3 : Int32)) + (1 : Int32))), .val (.int ((((XT.ushr pl (2 : Int32)) &&& (3 : Int32)) % (3 : Int32)) + (1 : Int32))), .val (.int ((pm &&& (2147483647 : Int32)) % (6 : Int32))), .val (.ref r1), .val (.ref r6), .val (.ref b10), .val (.ref k14), .val (.int 0)] [(.int 0)])
          refine og_iload X26 161 at_159 rfl rfl ?_
          refine og_icmpN X26 164 at_161 (XT.ii_ne_f (by decide)) rfl ?_
          refine og_iconst X26 165 (1 : Int32) at_164 rfl rfl ?_
          refine og_goto X26 169 at_165 (by decide) (by decide) ?_
          refine own_retZ X26 at_169 hret rfl (by decide) (by decide) ?_
          exact rfl
        · -- not
          refine og_icmpY X14 129 at_113 (XT.ii_ne_t hc21) (by decide) (by decide) ?_
          refine og_iload X14 131 at_129 rfl rfl ?_
          refine og_iconst X14 132 (4 : Int32) at_131 rfl rfl ?_
          by_cases hc27 : ((pm &&& (2147483647 : Int32)) % (6 : Int32)) = (4 : Int32)
          · -- ((pm &&& (2147483647 : Int32)) % (6 : Int32)) = (4 : Int32)
            refine og_icmpN X14 135 at_132 (XT.ii_ne_f hc27) rfl ?_
            refine og_aload X14 137 at_135 rfl rfl rfl ?_
            refine og_astore X14 139 #[.val (.int pl), .val (.int pa), .val (.int pb), .val (.int pm), .val (.int (((pl &&& (3 : Int32)) % (3 : Int32)) + (1 : Int32))), .val (.int ((((XT.ushr pl (2 : Int32)) &&& (3 : Int32)) % (3 : Int32)) + (1 : Int32))), .val (.int ((pm &&& (2147483647 : Int32)) % (6 : Int32))), .val (.ref r1), .val (.ref r6), .val (.ref b10), .val (.ref r1), .unset] at_137 rfl rfl rfl ?_
            refine og_iconst X14 140 (0 : Int32) at_139 rfl rfl ?_
            refine og_istore X14 142 #[.val (.int pl), .val (.int pa), .val (.int pb), .val (.int pm), .val (.int (((pl &&& (3 : Int32)) % (3 : Int32)) + (1 : Int32))), .val (.int ((((XT.ushr pl (2 : Int32)) &&& (3 : Int32)) % (3 : Int32)) + (1 : Int32))), .val (.int ((pm &&& (2147483647 : Int32)) % (6 : Int32))), .val (.ref r1), .val (.ref r6), .val (.ref b10), .val (.ref r1), .val (.int 0)] at_140 rfl rfl ?_
            refine og_goto X14 152 at_142 (by decide) (by decide) ?_
            refine og_aload X14 154 at_152 rfl rfl rfl ?_
            refine og_aload X14 156 at_154 rfl rfl rfl ?_
            have f28 := E10.keep K14
            have f29 := f2.exa.keep K6
            have f30 := f29.keep K10
            have f31 := f30.keep K14
            refine own_virt X14 159 (a := b10) (argsL := [(.ref r1)]) (rest := []) at_156 f28 (fun _ hZ => notFace_of_selects (args := #[]) (mvT hZ (ow hw 181 rfl))) (rm_eqS l Z a0 hw n0 h14 hWd [] X14.old b10 r1 f31 ) (ow hw 178 rfl) (ow hw 179 rfl) (ow hw 181 rfl) (ow hw 180 rfl) (ow hw 37 rfl) (ow hw 182 rfl) (by decide) (lenOf pd__28Ljava_2flang_2fObject_3b_29Z rfl) rfl rfl rfl (W := 0) rfl (by decide) (by decide) (by decide) (by decide) all0 rfl ?_
            intro T32 h32 v32 X32 K32 hQ32
            obtain rfl := hQ32
            show OGo _ _ _ _ T32 (mkF m 159 #[.val (.int pl), .val (.int pa), .val (.int pb), .val (.int pm), .val (.int (((pl &&& (3 : Int32)) % (3 : Int32)) + (1 : Int32))), .val (.int ((((XT.ushr pl (2 : Int32)) &&& (3 : Int32)) % (3 : Int32)) + (1 : Int32))), .val (.int ((pm &&& (2147483647 : Int32)) % (6 : Int32))), .val (.ref r1), .val (.ref r6), .val (.ref b10), .val (.ref r1), .val (.int 0)] [(.int 0)])
            refine og_iload X32 161 at_159 rfl rfl ?_
            refine og_icmpN X32 164 at_161 (XT.ii_ne_f (by decide)) rfl ?_
            refine og_iconst X32 165 (1 : Int32) at_164 rfl rfl ?_
            refine og_goto X32 169 at_165 (by decide) (by decide) ?_
            refine own_retZ X32 at_169 hret rfl (by decide) (by decide) ?_
            exact rfl
          · -- not
            refine og_icmpY X14 145 at_132 (XT.ii_ne_t hc27) (by decide) (by decide) ?_
            refine og_aload X14 147 at_145 rfl rfl rfl ?_
            refine og_astore X14 149 #[.val (.int pl), .val (.int pa), .val (.int pb), .val (.int pm), .val (.int (((pl &&& (3 : Int32)) % (3 : Int32)) + (1 : Int32))), .val (.int ((((XT.ushr pl (2 : Int32)) &&& (3 : Int32)) % (3 : Int32)) + (1 : Int32))), .val (.int ((pm &&& (2147483647 : Int32)) % (6 : Int32))), .val (.ref r1), .val (.ref r6), .val (.ref b10), .val (.ref b10), .unset] at_147 rfl rfl rfl ?_
            refine og_iconst X14 150 (1 : Int32) at_149 rfl rfl ?_
            refine og_istore X14 152 #[.val (.int pl), .val (.int pa), .val (.int pb), .val (.int pm), .val (.int (((pl &&& (3 : Int32)) % (3 : Int32)) + (1 : Int32))), .val (.int ((((XT.ushr pl (2 : Int32)) &&& (3 : Int32)) % (3 : Int32)) + (1 : Int32))), .val (.int ((pm &&& (2147483647 : Int32)) % (6 : Int32))), .val (.ref r1), .val (.ref r6), .val (.ref b10), .val (.ref b10), .val (.int 1)] at_150 rfl rfl ?_
            refine og_aload X14 154 at_152 rfl rfl rfl ?_
            refine og_aload X14 156 at_154 rfl rfl rfl ?_
            have f33 := E10.keep K14
            refine own_virt X14 159 (a := b10) (argsL := [(.ref b10)]) (rest := []) at_156 f33 (fun _ hZ => notFace_of_selects (args := #[]) (mvT hZ (ow hw 181 rfl))) (rm_eqK l Z a0 hw n0 h14 hWd [] X14.old b10 b10 k14 k14 (own_key cs1) (own_key cs1) f33 f15 f15 f16.top f16.top ) (ow hw 178 rfl) (ow hw 179 rfl) (ow hw 181 rfl) (ow hw 180 rfl) (ow hw 37 rfl) (ow hw 182 rfl) (by decide) (lenOf pd__28Ljava_2flang_2fObject_3b_29Z rfl) rfl rfl rfl (W := 0) rfl (by decide) (by decide) (by decide) (by decide) all0 rfl ?_
            intro T34 h34 v34 X34 K34 hQ34
            obtain rfl := hQ34
            show OGo _ _ _ _ T34 (mkF m 159 #[.val (.int pl), .val (.int pa), .val (.int pb), .val (.int pm), .val (.int (((pl &&& (3 : Int32)) % (3 : Int32)) + (1 : Int32))), .val (.int ((((XT.ushr pl (2 : Int32)) &&& (3 : Int32)) % (3 : Int32)) + (1 : Int32))), .val (.int ((pm &&& (2147483647 : Int32)) % (6 : Int32))), .val (.ref r1), .val (.ref r6), .val (.ref b10), .val (.ref b10), .val (.int 1)] [(.int (own_eqb (own_key cs1) (own_key cs1)))])
            refine og_iload X34 161 at_159 rfl rfl ?_
            refine og_icmpN X34 164 at_161 (XT.ii_ne_f (own_eqbr _)) rfl ?_
            refine og_iconst X34 165 (1 : Int32) at_164 rfl rfl ?_
            refine og_goto X34 169 at_165 (by decide) (by decide) ?_
            refine own_retZ X34 at_169 hret rfl (by decide) (by decide) ?_
            exact rfl
    · -- not
      refine og_icmpN X14 72 at_69 (XT.ii_gt_f hc17) rfl ?_
      refine own_new X14 75 at_72 (ow hw 35 rfl) (ow hw 36 rfl) (ow hw 37 rfl) (by decide) (by decide) rfl ?_
      intro T35 h35 b35 X35 K35 G35 U35 E35 D35
      have f36 : Fld Z h35 b35 "com/example/synlock/synlock/LockKeys" "key" "Ljava/lang/String;" .null := D35 (Or.inr (ow hw 167 rfl)) (ty := (.object "java/lang/String")) (by decide)
      refine og_dup X35 76 at_75 rfl rfl ?_
      refine og_aload X35 78 at_76 rfl rfl rfl ?_
      have f37 := f7.keep K10 all0
      have f38 := f37.keep K14 (allS (Or.inl (Nat.le_trans (Nat.le_refl _) G10)) all0)
      have f39 := f38.keep K35 all0
      refine own_spec X35 81 (a := b35) (argsL := [(.ref r6)]) (rest := [(.ref b35)]) at_78 rfl (rm_lk l Z a0 hw n0 h35 hWd [] X35.old b35 r6 cs6 E35 f36 f39.top f8 f9 (own_svb X35 (om 0 rfl))) (ow hw 38 rfl) (ow hw 39 rfl) (ow hw 37 rfl) (ow hw 40 rfl) (by decide) (lenOf pd__28Ljava_2flang_2fString_3b_29V rfl) rfl rfl rfl (W := 1) rfl (by decide) (by decide) (by decide) (by decide) (allS (om 0 rfl) all0) rfl ?_
      intro T40 h40 v40 X40 K40 hQ40
      obtain ⟨k40, rfl, ge_k40, f41, f42⟩ := hQ40
      show OGo _ _ _ _ T40 (mkF m 81 #[.val (.int pl), .val (.int pa), .val (.int pb), .val (.int pm), .val (.int (((pl &&& (3 : Int32)) % (3 : Int32)) + (1 : Int32))), .val (.int ((((XT.ushr pl (2 : Int32)) &&& (3 : Int32)) % (3 : Int32)) + (1 : Int32))), .val (.int ((pm &&& (2147483647 : Int32)) % (6 : Int32))), .val (.ref r1), .val (.ref r6), .val (.ref b10), .unset, .unset] [(.ref b35)])
      refine og_astore X40 83 #[.val (.int pl), .val (.int pa), .val (.int pb), .val (.int pm), .val (.int (((pl &&& (3 : Int32)) % (3 : Int32)) + (1 : Int32))), .val (.int ((((XT.ushr pl (2 : Int32)) &&& (3 : Int32)) % (3 : Int32)) + (1 : Int32))), .val (.int ((pm &&& (2147483647 : Int32)) % (6 : Int32))), .val (.ref r1), .val (.ref r6), .val (.ref b10), .val (.ref b35), .unset] at_81 rfl rfl rfl ?_
      refine og_aload X40 85 at_83 rfl rfl rfl ?_
      refine og_aload X40 87 at_85 rfl rfl rfl ?_
      have f43 := f13.keep K14 (allS (Or.inl (Nat.le_trans K6.1 G10)) all0)
      have f44 := f43.keep K35 all0
      have f45 := f44.keep K40 (allS (Or.inl (Nat.le_trans (Nat.le_trans (Nat.le_trans K6.1 K10.1) K14.1) G35)) all0)
      have f46 := f39.keep K40 (allS (Or.inl (Nat.le_trans (Nat.le_trans K10.1 K14.1) G35)) all0)
      refine own_strEq X40 90 at_87 f45 f46 (own_wE hw) (ow hw 7 rfl) hWd.2.1 hWd.2.2 (ow hw 168 rfl) (ow hw 169 rfl) (ow hw 171 rfl) (ow hw 170 rfl) rfl (W := 0) rfl (by decide) (by decide) (by decide) (by decide) rfl ?_
      intro T47 X48
      refine og_istore X48 92 #[.val (.int pl), .val (.int pa), .val (.int pb), .val (.int pm), .val (.int (((pl &&& (3 : Int32)) % (3 : Int32)) + (1 : Int32))), .val (.int ((((XT.ushr pl (2 : Int32)) &&& (3 : Int32)) % (3 : Int32)) + (1 : Int32))), .val (.int ((pm &&& (2147483647 : Int32)) % (6 : Int32))), .val (.ref r1), .val (.ref r6), .val (.ref b10), .val (.ref b35), .val (.int (own_eqb cs1 cs6))] at_90 rfl rfl ?_
      refine og_goto X48 152 at_92 (by decide) (by decide) ?_
      refine og_aload X48 154 at_152 rfl rfl rfl ?_
      refine og_aload X48 156 at_154 rfl rfl rfl ?_
      have f49 := E10.keep K14
      have f50 := f49.keep K35
      have f51 := f50.keep K40
      have f52 := E35.keep K40
      have f53 := f15.keep K35 nin0
      have f54 := f53.keep K40 (ninS (Nat.ne_of_lt (Nat.lt_of_lt_of_le (Nat.lt_of_lt_of_le U10 K14.1) G35)) nin0)
      have f55 := f16.keep K35 all0
      have f56 := f55.keep K40 (allS (Or.inl (Nat.le_trans (Nat.le_refl _) G35)) all0)
      refine own_virt X48 159 (a := b10) (argsL := [(.ref b35)]) (rest := []) at_156 f51 (fun _ hZ => notFace_of_selects (args := #[]) (mvT hZ (ow hw 181 rfl))) (rm_eqK l Z a0 hw n0 h40 hWd [] X48.old b10 b35 k14 k40 (own_key cs1) (own_key cs6) f52 f54 f41 f56.top f42.top ) (ow hw 178 rfl) (ow hw 179 rfl) (ow hw 181 rfl) (ow hw 180 rfl) (ow hw 37 rfl) (ow hw 182 rfl) (by decide) (lenOf pd__28Ljava_2flang_2fObject_3b_29Z rfl) rfl rfl rfl (W := 0) rfl (by decide) (by decide) (by decide) (by decide) all0 rfl ?_
      intro T57 h57 v57 X57 K57 hQ57
      obtain rfl := hQ57
      show OGo _ _ _ _ T57 (mkF m 159 #[.val (.int pl), .val (.int pa), .val (.int pb), .val (.int pm), .val (.int (((pl &&& (3 : Int32)) % (3 : Int32)) + (1 : Int32))), .val (.int ((((XT.ushr pl (2 : Int32)) &&& (3 : Int32)) % (3 : Int32)) + (1 : Int32))), .val (.int ((pm &&& (2147483647 : Int32)) % (6 : Int32))), .val (.ref r1), .val (.ref r6), .val (.ref b10), .val (.ref b35), .val (.int (own_eqb cs1 cs6))] [(.int (own_eqb (own_key cs1) (own_key cs6)))])
      refine og_iload X57 161 at_159 rfl rfl ?_
      refine og_icmpN X57 164 at_161 (XT.ii_ne_f (own_eqk cs1 cs6)) rfl ?_
      refine og_iconst X57 165 (1 : Int32) at_164 rfl rfl ?_
      refine og_goto X57 169 at_165 (by decide) (by decide) ?_
      refine own_retZ X57 at_169 hret rfl (by decide) (by decide) ?_
      exact rfl
  · -- not
    refine og_icmpY X1 49 at_42 (XT.ii_ne_t hc5) (by decide) (by decide) ?_
    refine og_iloadN X1 50 at_49 rfl rfl ?_
    refine own_stat X1 53 (argsL := [(.int ((((XT.ushr pl (2 : Int32)) &&& (3 : Int32)) % (3 : Int32)) + (1 : Int32))), (.int pb)]) (rest := []) at_50 (rm1 l Z a0 hw n0 h1 hWd [] X1.old ((((XT.ushr pl (2 : Int32)) &&& (3 : Int32)) % (3 : Int32)) + (1 : Int32)) pb  ) (ow hw 1 rfl) (ow hw 2 rfl) (ow hw 3 rfl) (ow hw 4 rfl) (by decide) (lenOf pd__28II_29Ljava_2flang_2fString_3b rfl) rfl rfl rfl (W := 0) rfl (by decide) (by decide) (by decide) (by decide) all0 rfl ?_
    intro T58 h58 v58 X58 K58 hQ58
    obtain ⟨r58, cs58, rfl, ge_r58, f59, f60, f61⟩ := hQ58
    show OGo _ _ _ _ T58 (mkF m 53 #[.val (.int pl), .val (.int pa), .val (.int pb), .val (.int pm), .val (.int (((pl &&& (3 : Int32)) % (3 : Int32)) + (1 : Int32))), .val (.int ((((XT.ushr pl (2 : Int32)) &&& (3 : Int32)) % (3 : Int32)) + (1 : Int32))), .val (.int ((pm &&& (2147483647 : Int32)) % (6 : Int32))), .val (.ref r1), .unset, .unset, .unset, .unset] [(.ref r58)])
    refine og_astore X58 55 #[.val (.int pl), .val (.int pa), .val (.int pb), .val (.int pm), .val (.int (((pl &&& (3 : Int32)) % (3 : Int32)) + (1 : Int32))), .val (.int ((((XT.ushr pl (2 : Int32)) &&& (3 : Int32)) % (3 : Int32)) + (1 : Int32))), .val (.int ((pm &&& (2147483647 : Int32)) % (6 : Int32))), .val (.ref r1), .val (.ref r58), .unset, .unset, .unset] at_53 rfl rfl rfl ?_
    refine own_new X58 58 at_55 (ow hw 35 rfl) (ow hw 36 rfl) (ow hw 37 rfl) (by decide) (by decide) rfl ?_
    intro T62 h62 b62 X62 K62 G62 U62 E62 D62
    have f63 : Fld Z h62 b62 "com/example/synlock/synlock/LockKeys" "key" "Ljava/lang/String;" .null := D62 (Or.inr (ow hw 167 rfl)) (ty := (.object "java/lang/String")) (by decide)
    refine og_dup X62 59 at_58 rfl rfl ?_
    refine og_aload X62 61 at_59 rfl rfl rfl ?_
    have f64 := f2.keep K58 all0
    have f65 := f64.keep K62 all0
    refine own_spec X62 64 (a := b62) (argsL := [(.ref r1)]) (rest := [(.ref b62)]) at_61 rfl (rm_lk l Z a0 hw n0 h62 hWd [] X62.old b62 r1 cs1 E62 f63 f65.top f3 f4 (own_svb X62 (om 0 rfl))) (ow hw 38 rfl) (ow hw 39 rfl) (ow hw 37 rfl) (ow hw 40 rfl) (by decide) (lenOf pd__28Ljava_2flang_2fString_3b_29V rfl) rfl rfl rfl (W := 1) rfl (by decide) (by decide) (by decide) (by decide) (allS (om 0 rfl) all0) rfl ?_
    intro T66 h66 v66 X66 K66 hQ66
    obtain ⟨k66, rfl, ge_k66, f67, f68⟩ := hQ66
    show OGo _ _ _ _ T66 (mkF m 64 #[.val (.int pl), .val (.int pa), .val (.int pb), .val (.int pm), .val (.int (((pl &&& (3 : Int32)) % (3 : Int32)) + (1 : Int32))), .val (.int ((((XT.ushr pl (2 : Int32)) &&& (3 : Int32)) % (3 : Int32)) + (1 : Int32))), .val (.int ((pm &&& (2147483647 : Int32)) % (6 : Int32))), .val (.ref r1), .val (.ref r58), .unset, .unset, .unset] [(.ref b62)])
    refine og_astore X66 66 #[.val (.int pl), .val (.int pa), .val (.int pb), .val (.int pm), .val (.int (((pl &&& (3 : Int32)) % (3 : Int32)) + (1 : Int32))), .val (.int ((((XT.ushr pl (2 : Int32)) &&& (3 : Int32)) % (3 : Int32)) + (1 : Int32))), .val (.int ((pm &&& (2147483647 : Int32)) % (6 : Int32))), .val (.ref r1), .val (.ref r58), .val (.ref b62), .unset, .unset] at_64 rfl rfl rfl ?_
    refine og_iload X66 68 at_66 rfl rfl ?_
    refine og_iconst X66 69 (1 : Int32) at_68 rfl rfl ?_
    by_cases hc69 : (1 : Int32) < ((pm &&& (2147483647 : Int32)) % (6 : Int32))
    · -- (1 : Int32) < ((pm &&& (2147483647 : Int32)) % (6 : Int32))
      refine og_icmpY X66 95 at_69 (XT.ii_gt_t hc69) (by decide) (by decide) ?_
      refine og_iload X66 97 at_95 rfl rfl ?_
      refine og_iconst X66 98 (2 : Int32) at_97 rfl rfl ?_
      by_cases hc70 : ((pm &&& (2147483647 : Int32)) % (6 : Int32)) = (2 : Int32)
      · -- ((pm &&& (2147483647 : Int32)) % (6 : Int32)) = (2 : Int32)
        refine og_icmpN X66 101 at_98 (XT.ii_ne_f hc70) rfl ?_
        refine og_aconstNull X66 102 at_101 rfl ?_
        refine og_astore X66 104 #[.val (.int pl), .val (.int pa), .val (.int pb), .val (.int pm), .val (.int (((pl &&& (3 : Int32)) % (3 : Int32)) + (1 : Int32))), .val (.int ((((XT.ushr pl (2 : Int32)) &&& (3 : Int32)) % (3 : Int32)) + (1 : Int32))), .val (.int ((pm &&& (2147483647 : Int32)) % (6 : Int32))), .val (.ref r1), .val (.ref r58), .val (.ref b62), .val .null, .unset] at_102 rfl rfl rfl ?_
        refine og_iconst X66 105 (0 : Int32) at_104 rfl rfl ?_
        refine og_istore X66 107 #[.val (.int pl), .val (.int pa), .val (.int pb), .val (.int pm), .val (.int (((pl &&& (3 : Int32)) % (3 : Int32)) + (1 : Int32))), .val (.int ((((XT.ushr pl (2 : Int32)) &&& (3 : Int32)) % (3 : Int32)) + (1 : Int32))), .val (.int ((pm &&& (2147483647 : Int32)) % (6 : Int32))), .val (.ref r1), .val (.ref r58), .val (.ref b62), .val .null, .val (.int 0)] at_105 rfl rfl ?_
        refine og_goto X66 152 at_107 (by decide) (by decide) ?_
        refine og_aload X66 154 at_152 rfl rfl rfl ?_
        refine og_aload X66 156 at_154 rfl rfl rfl ?_
        have f71 := E62.keep K66
        refine own_virt X66 159 (a := b62) (argsL := [.null]) (rest := []) at_156 f71 (fun _ hZ => notFace_of_selects (args := #[]) (mvT hZ (ow hw 181 rfl))) (rm_eqN l Z a0 hw n0 h66 hWd [] X66.old b62  ) (ow hw 178 rfl) (ow hw 179 rfl) (ow hw 181 rfl) (ow hw 180 rfl) (ow hw 37 rfl) (ow hw 182 rfl) (by decide) (lenOf pd__28Ljava_2flang_2fObject_3b_29Z rfl) rfl rfl rfl (W := 0) rfl (by decide) (by decide) (by decide) (by decide) all0 rfl ?_
        intro T72 h72 v72 X72 K72 hQ72
        obtain rfl := hQ72
        show OGo _ _ _ _ T72 (mkF m 159 #[.val (.int pl), .val (.int pa), .val (.int pb), .val (.int pm), .val (.int (((pl &&& (3 : Int32)) % (3 : Int32)) + (1 : Int32))), .val (.int ((((XT.ushr pl (2 : Int32)) &&& (3 : Int32)) % (3 : Int32)) + (1 : Int32))), .val (.int ((pm &&& (2147483647 : Int32)) % (6 : Int32))), .val (.ref r1), .val (.ref r58), .val (.ref b62), .val .null, .val (.int 0)] [(.int 0)])
        refine og_iload X72 161 at_159 rfl rfl ?_
        refine og_icmpN X72 164 at_161 (XT.ii_ne_f (by decide)) rfl ?_
        refine og_iconst X72 165 (1 : Int32) at_164 rfl rfl ?_
        refine og_goto X72 169 at_165 (by decide) (by decide) ?_
        refine own_retZ X72 at_169 hret rfl (by decide) (by decide) ?_
        exact rfl
      · -- not
        refine og_icmpY X66 110 at_98 (XT.ii_ne_t hc70) (by decide) (by decide) ?_
        refine og_iload X66 112 at_110 rfl rfl ?_
        refine og_iconst X66 113 (3 : Int32) at_112 rfl rfl ?_
        by_cases hc73 : ((pm &&& (2147483647 : Int32)) % (6 : Int32)) = (3 : Int32)
        · -- ((pm &&& (2147483647 : Int32)) % (6 : Int32)) = (3 : Int32)
          refine og_icmpN X66 116 at_113 (XT.ii_ne_f hc73) rfl ?_
          refine og_aload X66 118 at_116 rfl rfl rfl ?_
          have f74 := E62.keep K66
          refine own_virt X66 121 (a := b62) (argsL := []) (rest := []) at_118 f74 (fun _ hZ => notFace_of_selects (args := #[]) (mvT hZ (ow hw 191 rfl))) (rm35 l Z a0 hw n0 h66 hWd [] X66.old b62 k66 f67 ) (ow hw 188 rfl) (ow hw 189 rfl) (ow hw 191 rfl) (ow hw 190 rfl) (ow hw 37 rfl) (ow hw 192 rfl) (by decide) (lenOf pd__28_29Ljava_2flang_2fString_3b rfl) rfl rfl rfl (W := 0) rfl (by decide) (by decide) (by decide) (by decide) all0 rfl ?_
          intro T75 h75 v75 X75 K75 hQ75
          obtain rfl := hQ75
          show OGo _ _ _ _ T75 (mkF m 121 #[.val (.int pl), .val (.int pa), .val (.int pb), .val (.int pm), .val (.int (((pl &&& (3 : Int32)) % (3 : Int32)) + (1 : Int32))), .val (.int ((((XT.ushr pl (2 : Int32)) &&& (3 : Int32)) % (3 : Int32)) + (1 : Int32))), .val (.int ((pm &&& (2147483647 : Int32)) % (6 : Int32))), .val (.ref r1), .val (.ref r58), .val (.ref b62), .unset, .unset] [(.ref k66)])
          refine og_astore X75 123 #[.val (.int pl), .val (.int pa), .val (.int pb), .val (.int pm), .val (.int (((pl &&& (3 : Int32)) % (3 : Int32)) + (1 : Int32))), .val (.int ((((XT.ushr pl (2 : Int32)) &&& (3 : Int32)) % (3 : Int32)) + (1 : Int32))), .val (.int ((pm &&& (2147483647 : Int32)) % (6 : Int32))), .val (.ref r1), .val (.ref r58), .val (.ref b62), .val (.ref k66), .unset] at_121 rfl rfl rfl ?_
          refine og_iconst X75 124 (0 : Int32) at_123 rfl rfl ?_
          refine og_istore X75 126 #[.val (.int pl), .val (.int pa), .val (.int pb), .val (.int pm), .val (.int (((pl &&& (3 : Int32)) % (3 : Int32)) + (1 : Int32))), .val (.int ((((XT.ushr pl (2 : Int32)) &&& (3 : Int32)) % (3 : Int32)) + (1 : Int32))), .val (.int ((pm &&& (2147483647 : Int32)) % (6 : Int32))), .val (.ref r1), .val (.ref r58), .val (.ref b62), .val (.ref k66), .val (.int 0)] at_124 rfl rfl ?_
          refine og_goto X75 152 at_126 (by decide) (by decide) ?_
          refine og_aload X75 154 at_152 rfl rfl rfl ?_
          refine og_aload X75 156 at_154 rfl rfl rfl ?_
          have f76 := f74.keep K75
          have f77 := f68.exa.keep K75
          refine own_virt X75 159 (a := b62) (argsL := [(.ref k66)]) (rest := []) at_156 f76 (fun _ hZ => notFace_of_selects (args := #[]) (mvT hZ (ow hw 181 rfl))) (rm_eqS l Z a0 hw n0 h75 hWd [] X75.old b62 k66 f77 ) (ow hw 178 rfl) (ow hw 179 rfl) (ow hw 181 rfl) (ow hw 180 rfl) (ow hw 37 rfl) (ow hw 182 rfl) (by decide) (lenOf pd__28Ljava_2flang_2fObject_3b_29Z rfl) rfl rfl rfl (W := 0) rfl (by decide) (by decide) (by decide) (by decide) all0 rfl ?_
          intro T78 h78 v78 X78 K78 hQ78
          obtain rfl := hQ78
          show OGo _ _ _ _ T78 (mkF m 159 #[.val (.int pl), .val (.int pa), .val (.int pb), .val (.int pm), .val (.int (((pl &&& (3 : Int32)) % (3 : Int32)) + (1 : Int32))), .val (.int ((((XT.ushr pl (2 : Int32)) &&& (3 : Int32)) % (3 : Int32)) + (1 : Int32))), .val (.int ((pm &&& (2147483647 : Int32)) % (6 : Int32))), .val (.ref r1), .val (.ref r58), .val (.ref b62), .val (.ref k66), .val (.int 0)] [(.int 0)])
          refine og_iload X78 161 at_159 rfl rfl ?_
          refine og_icmpN X78 164 at_161 (XT.ii_ne_f (by decide)) rfl ?_
          refine og_iconst X78 165 (1 : Int32) at_164 rfl rfl ?_
          refine og_goto X78 169 at_165 (by decide) (by decide) ?_
          refine own_retZ X78 at_169 hret rfl (by decide) (by decide) ?_
          exact rfl
        · -- not
          refine og_icmpY X66 129 at_113 (XT.ii_ne_t hc73) (by decide) (by decide) ?_
          refine og_iload X66 131 at_129 rfl rfl ?_
          refine og_iconst X66 132 (4 : Int32) at_131 rfl rfl ?_
          by_cases hc79 : ((pm &&& (2147483647 : Int32)) % (6 : Int32)) = (4 : Int32)
          · -- ((pm &&& (2147483647 : Int32)) % (6 : Int32)) = (4 : Int32)
            refine og_icmpN X66 135 at_132 (XT.ii_ne_f hc79) rfl ?_
            refine og_aload X66 137 at_135 rfl rfl rfl ?_
            refine og_astore X66 139 #[.val (.int pl), .val (.int pa), .val (.int pb), .val (.int pm), .val (.int (((pl &&& (3 : Int32)) % (3 : Int32)) + (1 : Int32))), .val (.int ((((XT.ushr pl (2 : Int32)) &&& (3 : Int32)) % (3 : Int32)) + (1 : Int32))), .val (.int ((pm &&& (2147483647 : Int32)) % (6 : Int32))), .val (.ref r1), .val (.ref r58), .val (.ref b62), .val (.ref r1), .unset] at_137 rfl rfl rfl ?_
            refine og_iconst X66 140 (0 : Int32) at_139 rfl rfl ?_
            refine og_istore X66 142 #[.val (.int pl), .val (.int pa), .val (.int pb), .val (.int pm), .val (.int (((pl &&& (3 : Int32)) % (3 : Int32)) + (1 : Int32))), .val (.int ((((XT.ushr pl (2 : Int32)) &&& (3 : Int32)) % (3 : Int32)) + (1 : Int32))), .val (.int ((pm &&& (2147483647 : Int32)) % (6 : Int32))), .val (.ref r1), .val (.ref r58), .val (.ref b62), .val (.ref r1), .val (.int 0)] at_140 rfl rfl ?_
            refine og_goto X66 152 at_142 (by decide) (by decide) ?_
            refine og_aload X66 154 at_152 rfl rfl rfl ?_
            refine og_aload X66 156 at_154 rfl rfl rfl ?_
            have f80 := E62.keep K66
            have f81 := f2.exa.keep K58
            have f82 := f81.keep K62
            have f83 := f82.keep K66
            refine own_virt X66 159 (a := b62) (argsL := [(.ref r1)]) (rest := []) at_156 f80 (fun _ hZ => notFace_of_selects (args := #[]) (mvT hZ (ow hw 181 rfl))) (rm_eqS l Z a0 hw n0 h66 hWd [] X66.old b62 r1 f83 ) (ow hw 178 rfl) (ow hw 179 rfl) (ow hw 181 rfl) (ow hw 180 rfl) (ow hw 37 rfl) (ow hw 182 rfl) (by decide) (lenOf pd__28Ljava_2flang_2fObject_3b_29Z rfl) rfl rfl rfl (W := 0) rfl (by decide) (by decide) (by decide) (by decide) all0 rfl ?_
            intro T84 h84 v84 X84 K84 hQ84
            obtain rfl := hQ84
            show OGo _ _ _ _ T84 (mkF m 159 #[.val (.int pl), .val (.int pa), .val (.int pb), .val (.int pm), .val (.int (((pl &&& (3 : Int32)) % (3 : Int32)) + (1 : Int32))), .val (.int ((((XT.ushr pl (2 : Int32)) &&& (3 : Int32)) % (3 : Int32)) + (1 : Int32))), .val (.int ((pm &&& (2147483647 : Int32)) % (6 : Int32))), .val (.ref r1), .val (.ref r58), .val (.ref b62), .val (.ref r1), .val (.int 0)] [(.int 0)])
            refine og_iload X84 161 at_159 rfl rfl ?_
            refine og_icmpN X84 164 at_161 (XT.ii_ne_f (by decide)) rfl ?_
            refine og_iconst X84 165 (1 : Int32) at_164 rfl rfl ?_
            refine og_goto X84 169 at_165 (by decide) (by decide) ?_
            refine own_retZ X84 at_169 hret rfl (by decide) (by decide) ?_
            exact rfl
          · -- not
            refine og_icmpY X66 145 at_132 (XT.ii_ne_t hc79) (by decide) (by decide) ?_
            refine og_aload X66 147 at_145 rfl rfl rfl ?_
            refine og_astore X66 149 #[.val (.int pl), .val (.int pa), .val (.int pb), .val (.int pm), .val (.int (((pl &&& (3 : Int32)) % (3 : Int32)) + (1 : Int32))), .val (.int ((((XT.ushr pl (2 : Int32)) &&& (3 : Int32)) % (3 : Int32)) + (1 : Int32))), .val (.int ((pm &&& (2147483647 : Int32)) % (6 : Int32))), .val (.ref r1), .val (.ref r58), .val (.ref b62), .val (.ref b62), .unset] at_147 rfl rfl rfl ?_
            refine og_iconst X66 150 (1 : Int32) at_149 rfl rfl ?_
            refine og_istore X66 152 #[.val (.int pl), .val (.int pa), .val (.int pb), .val (.int pm), .val (.int (((pl &&& (3 : Int32)) % (3 : Int32)) + (1 : Int32))), .val (.int ((((XT.ushr pl (2 : Int32)) &&& (3 : Int32)) % (3 : Int32)) + (1 : Int32))), .val (.int ((pm &&& (2147483647 : Int32)) % (6 : Int32))), .val (.ref r1), .val (.ref r58), .val (.ref b62), .val (.ref b62), .val (.int 1)] at_150 rfl rfl ?_
            refine og_aload X66 154 at_152 rfl rfl rfl ?_
            refine og_aload X66 156 at_154 rfl rfl rfl ?_
            have f85 := E62.keep K66
            refine own_virt X66 159 (a := b62) (argsL := [(.ref b62)]) (rest := []) at_156 f85 (fun _ hZ => notFace_of_selects (args := #[]) (mvT hZ (ow hw 181 rfl))) (rm_eqK l Z a0 hw n0 h66 hWd [] X66.old b62 b62 k66 k66 (own_key cs1) (own_key cs1) f85 f67 f67 f68.top f68.top ) (ow hw 178 rfl) (ow hw 179 rfl) (ow hw 181 rfl) (ow hw 180 rfl) (ow hw 37 rfl) (ow hw 182 rfl) (by decide) (lenOf pd__28Ljava_2flang_2fObject_3b_29Z rfl) rfl rfl rfl (W := 0) rfl (by decide) (by decide) (by decide) (by decide) all0 rfl ?_
            intro T86 h86 v86 X86 K86 hQ86
            obtain rfl := hQ86
            show OGo _ _ _ _ T86 (mkF m 159 #[.val (.int pl), .val (.int pa), .val (.int pb), .val (.int pm), .val (.int (((pl &&& (3 : Int32)) % (3 : Int32)) + (1 : Int32))), .val (.int ((((XT.ushr pl (2 : Int32)) &&& (3 : Int32)) % (3 : Int32)) + (1 : Int32))), .val (.int ((pm &&& (2147483647 : Int32)) % (6 : Int32))), .val (.ref r1), .val (.ref r58), .val (.ref b62), .val (.ref b62), .val (.int 1)] [(.int (own_eqb (own_key cs1) (own_key cs1)))])
            refine og_iload X86 161 at_159 rfl rfl ?_
            refine og_icmpN X86 164 at_161 (XT.ii_ne_f (own_eqbr _)) rfl ?_
            refine og_iconst X86 165 (1 : Int32) at_164 rfl rfl ?_
            refine og_goto X86 169 at_165 (by decide) (by decide) ?_
            refine own_retZ X86 at_169 hret rfl (by decide) (by decide) ?_
            exact rfl
    · -- not
      refine og_icmpN X66 72 at_69 (XT.ii_gt_f hc69) rfl ?_
      refine own_new X66 75 at_72 (ow hw 35 rfl) (ow hw 36 rfl) (ow hw 37 rfl) (by decide) (by decide) rfl ?_
      intro T87 h87 b87 X87 K87 G87 U87 E87 D87
      have f88 : Fld Z h87 b87 "com/example/synlock/synlock/LockKeys" "key" "Ljava/lang/String;" .null := D87 (Or.inr (ow hw 167 rfl)) (ty := (.object "java/lang/String")) (by decide)
      refine og_dup X87 76 at_75 rfl rfl ?_
      refine og_aload X87 78 at_76 rfl rfl rfl ?_
      have f89 := f59.keep K62 all0
      have f90 := f89.keep K66 (allS (Or.inl (Nat.le_trans (Nat.le_refl _) G62)) all0)
      have f91 := f90.keep K87 all0
      refine own_spec X87 81 (a := b87) (argsL := [(.ref r58)]) (rest := [(.ref b87)]) at_78 rfl (rm_lk l Z a0 hw n0 h87 hWd [] X87.old b87 r58 cs58 E87 f88 f91.top f60 f61 (own_svb X87 (om 0 rfl))) (ow hw 38 rfl) (ow hw 39 rfl) (ow hw 37 rfl) (ow hw 40 rfl) (by decide) (lenOf pd__28Ljava_2flang_2fString_3b_29V rfl) rfl rfl rfl (W := 1) rfl (by decide) (by decide) (by decide) (by decide) (allS (om 0 rfl) all0) rfl ?_
      intro T92 h92 v92 X92 K92 hQ92
      obtain ⟨k92, rfl, ge_k92, f93, f94⟩ := hQ92
      show OGo _ _ _ _ T92 (mkF m 81 #[.val (.int pl), .val (.int pa), .val (.int pb), .val (.int pm), .val (.int (((pl &&& (3 : Int32)) % (3 : Int32)) + (1 : Int32))), .val (.int ((((XT.ushr pl (2 : Int32)) &&& (3 : Int32)) % (3 : Int32)) + (1 : Int32))), .val (.int ((pm &&& (2147483647 : Int32)) % (6 : Int32))), .val (.ref r1), .val (.ref r58), .val (.ref b62), .unset, .unset] [(.ref b87)])
      refine og_astore X92 83 #[.val (.int pl), .val (.int pa), .val (.int pb), .val (.int pm), .val (.int (((pl &&& (3 : Int32)) % (3 : Int32)) + (1 : Int32))), .val (.int ((((XT.ushr pl (2 : Int32)) &&& (3 : Int32)) % (3 : Int32)) + (1 : Int32))), .val (.int ((pm &&& (2147483647 : Int32)) % (6 : Int32))), .val (.ref r1), .val (.ref r58), .val (.ref b62), .val (.ref b87), .unset] at_81 rfl rfl rfl ?_
      refine og_aload X92 85 at_83 rfl rfl rfl ?_
      refine og_aload X92 87 at_85 rfl rfl rfl ?_
      have f95 := f65.keep K66 (allS (Or.inl (Nat.le_trans K58.1 G62)) all0)
      have f96 := f95.keep K87 all0
      have f97 := f96.keep K92 (allS (Or.inl (Nat.le_trans (Nat.le_trans (Nat.le_trans K58.1 K62.1) K66.1) G87)) all0)
      have f98 := f91.keep K92 (allS (Or.inl (Nat.le_trans (Nat.le_trans K62.1 K66.1) G87)) all0)
      refine own_strEq X92 90 at_87 f97 f98 (own_wE hw) (ow hw 7 rfl) hWd.2.1 hWd.2.2 (ow hw 168 rfl) (ow hw 169 rfl) (ow hw 171 rfl) (ow hw 170 rfl) rfl (W := 0) rfl (by decide) (by decide) (by decide) (by decide) rfl ?_
      intro T99 X100
      refine og_istore X100 92 #[.val (.int pl), .val (.int pa), .val (.int pb), .val (.int pm), .val (.int (((pl &&& (3 : Int32)) % (3 : Int32)) + (1 : Int32))), .val (.int ((((XT.ushr pl (2 : Int32)) &&& (3 : Int32)) % (3 : Int32)) + (1 : Int32))), .val (.int ((pm &&& (2147483647 : Int32)) % (6 : Int32))), .val (.ref r1), .val (.ref r58), .val (.ref b62), .val (.ref b87), .val (.int (own_eqb cs1 cs58))] at_90 rfl rfl ?_
      refine og_goto X100 152 at_92 (by decide) (by decide) ?_
      refine og_aload X100 154 at_152 rfl rfl rfl ?_
      refine og_aload X100 156 at_154 rfl rfl rfl ?_
      have f101 := E62.keep K66
      have f102 := f101.keep K87
      have f103 := f102.keep K92
      have f104 := E87.keep K92
      have f105 := f67.keep K87 nin0
      have f106 := f105.keep K92 (ninS (Nat.ne_of_lt (Nat.lt_of_lt_of_le (Nat.lt_of_lt_of_le U62 K66.1) G87)) nin0)
      have f107 := f68.keep K87 all0
      have f108 := f107.keep K92 (allS (Or.inl (Nat.le_trans (Nat.le_refl _) G87)) all0)
      refine own_virt X100 159 (a := b62) (argsL := [(.ref b87)]) (rest := []) at_156 f103 (fun _ hZ => notFace_of_selects (args := #[]) (mvT hZ (ow hw 181 rfl))) (rm_eqK l Z a0 hw n0 h92 hWd [] X100.old b62 b87 k66 k92 (own_key cs1) (own_key cs58) f104 f106 f93 f108.top f94.top ) (ow hw 178 rfl) (ow hw 179 rfl) (ow hw 181 rfl) (ow hw 180 rfl) (ow hw 37 rfl) (ow hw 182 rfl) (by decide) (lenOf pd__28Ljava_2flang_2fObject_3b_29Z rfl) rfl rfl rfl (W := 0) rfl (by decide) (by decide) (by decide) (by decide) all0 rfl ?_
      intro T109 h109 v109 X109 K109 hQ109
      obtain rfl := hQ109
      show OGo _ _ _ _ T109 (mkF m 159 #[.val (.int pl), .val (.int pa), .val (.int pb), .val (.int pm), .val (.int (((pl &&& (3 : Int32)) % (3 : Int32)) + (1 : Int32))), .val (.int ((((XT.ushr pl (2 : Int32)) &&& (3 : Int32)) % (3 : Int32)) + (1 : Int32))), .val (.int ((pm &&& (2147483647 : Int32)) % (6 : Int32))), .val (.ref r1), .val (.ref r58), .val (.ref b62), .val (.ref b87), .val (.int (own_eqb cs1 cs58))] [(.int (own_eqb (own_key cs1) (own_key cs58)))])
      refine og_iload X109 161 at_159 rfl rfl ?_
      refine og_icmpN X109 164 at_161 (XT.ii_ne_f (own_eqk cs1 cs58)) rfl ?_
      refine og_iconst X109 165 (1 : Int32) at_164 rfl rfl ?_
      refine og_goto X109 169 at_165 (by decide) (by decide) ?_
      refine own_retZ X109 at_169 hret rfl (by decide) (by decide) ?_
      exact rfl
theorem own_held {s : State} {own : String} {i : Nat} (h : constHeld s own i) : Jvm.Lit.constHeld s own i := h
set_option maxRecDepth 65536 in
set_option maxHeartbeats 40000000 in
theorem comes_1 {Post : Tables → Env → Array Value → State → Outcome → State → Prop} (hpost : ∀ tb e args s v u, (limb_1_1.after args s (.returned v) u = true ∧ limb_1_2.after args s (.returned v) u = true ∧ True) → Jvm.ReturnedEndW s (.returned v) u (Jvm.fieldLocs frame_1_writes args s ++ Jvm.arrayLocs frame_1_arrays args s ++ Jvm.staticLocs frame_1_statics s) 48 3392 → Post tb e args s (.returned v) u) :
    ArmFor flags0 classFile x code maxLocals ret World_1 tables_1 room_1 Calls_1 rest_1 Pre_1 Post := by
  intro l hfl _ _ p e ha hc hk s m args below hf hA hF happ hP
  obtain ⟨hcalls, hrest, hpre⟩ := hP
  obtain ⟨-, -, -, hnamed, -, -, -, hat⟩ := (Spec.applies_iff hf).mp happ
  obtain ⟨hg, hn⟩ := and_e (Cond.before_iff.mp (show (Jvm.Cond.and given_1 narrow_1).before args s = true from hpre))
  obtain ⟨hcount, g0⟩ := and_e hg
  obtain ⟨i0, g1⟩ := and_e g0
  obtain ⟨i1, g2⟩ := and_e g1
  obtain ⟨i2, g3⟩ := and_e g2
  have i3 := g3
  obtain ⟨w0, w1, w2, w3, rfl⟩ : ∃ w0 w1 w2 w3 : Value, args = #[w0, w1, w2, w3] := by
    have hs : args.size = 4 := by simpa [Cond.value, given_1] using hcount
    obtain ⟨L⟩ := args
    match L, hs with
    | [w0, w1, w2, w3], _ => exact ⟨w0, w1, w2, w3, rfl⟩
  have hw := fun d (hd : d ∈ tables_1) => atoms_spec (ws := Jvm.Cond.code x code maxLocals ret :: tables_1) hat d (List.mem_cons_of_mem _ hd)
  obtain ⟨hsets, hown0⟩ := atoms_of _ (rest_1_c_eq ▸ (show rest_1_c.before _ s = true from hrest))
  obtain ⟨x0, e0⟩ := is_v i0
  obtain rfl : w0 = (.int x0) := Option.some.inj e0
  obtain ⟨x1, e1⟩ := is_v i1
  obtain rfl : w1 = (.int x1) := Option.some.inj e1
  obtain ⟨x2, e2⟩ := is_v i2
  obtain rfl : w2 = (.int x2) := Option.some.inj e2
  obtain ⟨x3, e3⟩ := is_v i3
  obtain rfl : w3 = (.int x3) := Option.some.inj e3
  have hEL : EW s #[(.int x0), (.int x1), (.int x2), (.int x3)] own_EL := (EW.cons (ow hw 42 rfl) (by decide) (EW.cons (ow hw 72 rfl) (by decide) (EW.cons (ow hw 120 rfl) (by decide) EW.nil)))
  obtain ⟨r0, f0⟩ := is_v (Cond.before_iff.mp (hsets _ (om 1 rfl)))
  have t0 : own_sti s "java/lang/String" "COMPACT_STRINGS" "Z" = r0 := own_sti_of f0
  have S0 := Sta.start f0 (Or.inl (hsets _ (om 0 rfl)))
  have c0 : ¬ (r0 = (0 : Int32)) := gotF (Cond.eq_ints f0 (Term.int_eval (0))) (not_v (Cond.before_iff.mp (hsets _ (om 2 rfl))))
  have hWd : OWorld s #[(.int x0), (.int x1), (.int x2), (.int x3)] := ⟨hEL, ⟨by rw [t0]; exact S0, by rw [t0]; exact c0⟩⟩
  have hCH : CHv s own_EL s.vm s.heap := CHv.start hEL (fun p hp => own_held (hcalls.1 p hp)) (by have := (hsets _ (om 2 rfl)); exact this) (ow hw 24 rfl) (ow hw 7 rfl)
  obtain ⟨n, o, h1, h2, h3, v, L, rfl, ⟨N, -, hQ⟩, -, hqW, hqN⟩ := rm0 l s _ hw s.heap.size s.heap hWd tables_1 (Old.start s) x0 x1 x2 x3 p e ha hc hk s m _ below hf ((Spec.applies_iff_loose hf).mp happ).1 ⟨rfl, State.Warmed39.refl s, rfl, hCH, fun _ q => nomatch q⟩ trivial
  obtain rfl := hQ
  refine ⟨n, _, h1, h2, h3, hpost _ _ _ _ _ _ ⟨Cond.after_iff.mpr rfl, Cond.after_iff.mpr (eq_i res_at (Term.int_eval (1)) rfl), trivial⟩ ⟨hqW.1, hqW.2.1, hqW.2.2.1, (hqW.2.2.2.sift fun y hy => Or.inr (N y hy)).mono (by decide) (by decide)⟩⟩
theorem main_1_1 : Claimed_1_1 := comes_1 fun _ _ _ _ _ _ h hF => ⟨h.1, hF⟩
theorem main_1_2 : Claimed_1_2 := comes_1 fun _ _ _ _ _ _ h hF => ⟨h.2.1, hF⟩
end Jvm.Pilot.@@N@@
namespace Jvm.Pilot.@@N@@
open Jvm Jvm.ClassFile Sem Op Lib Jvm.Free Jvm.Stand Jvm.Pilot.@@N@@.Jvm.D
/-! MADE BY PROGRAM (witnessworld.py) out of the Statement's table words and the real class files: 27 classes; the members and pool entries that the words name. The judged class is class 1, her method 1. -/
namespace start1
open Jvm.ClassFile
def u (s : String) : CpInfo := .utf8 (stringToUtf16 s)
/-- a pool by its gaps: so many unusable entries, then the entry; so many at the end -/
def gap : Nat → List CpInfo → List CpInfo
  | 0, r => r
  | n + 1, r => .unusable :: gap n r
def poolList (es : List (Nat × CpInfo)) (last : Nat) : List CpInfo := es.foldr (fun e r => gap e.1 (e.2 :: r)) (gap last [])
def pool (es : List (Nat × CpInfo)) (last : Nat) : Array CpInfo := ⟨poolList es last⟩
def fileOf (pool : Array CpInfo) (this : Nat) (attrs : Array Attribute := #[]) (ms : Array MethodInfo := #[]) (fl : Nat := 33) (sup : Nat := 0) (ifs : Array Nat := #[]) (fds : Array FieldInfo := #[]) : ClassFile where
  minorVersion := 0
  majorVersion := 65
  constantPool := pool
  accessFlags := fl
  thisClass := this
  superClass := sup
  interfaces := ifs
  fields := fds
  methods := ms
  attributes := attrs
def plain (name : String) (sup : Option ClassId) : Class where
  name := name
  kind := .ordinary
  loader := none
  accessFlags := 33
  super := sup
  interfaces := #[]
  cf := none
  fields := #[]
  methods := #[]
  instanceTypes := #[]
  staticTypes := #[]
  resolved := #[]
  callSites := []
  init := .initialized
  statics := none
  mirror := none

def pool0 : Array CpInfo := pool [(5, u "<init>"), (0, u "()V"), (1, .class_ 10), (1, u "java/lang/Object")] 113

def k0c0 : Code := { maxStack := 0, maxLocals := 1, code := object_method_1_code, exceptionTable := #[], attributes := #[] }
def k0m0 : Method := { name := "<init>", desc := "()V", sig := { parameters := [], returnType := none }, accessFlags := 1, code := some k0c0 }
/-- java/lang/Object -/
def k0 : Class := { plain "java/lang/Object" none with
  accessFlags := 33
  interfaces := #[]
  cf := some (fileOf pool0 8 #[] #[{ accessFlags := 1, nameIndex := 5, descriptorIndex := 6, attributes := #[] }] 33 0 #[] #[])
  fields := #[]
  methods := #[k0m0]
  instanceTypes := #[]
  staticTypes := #[]
  resolved := Array.replicate 124 none
  statics := none }

def pool1 : Array CpInfo := pool [(2, .class_ 4), (1, u "java/lang/Object"), (0, u "<init>"), (0, u "()V"), (0, .integer 2147483647), (0, .methodref 9 10), (0, .class_ 11), (0, .nameAndType 12 13), (0, u "com/example/synlock/synlock/LockKeysEqualsPinLaw"), (0, u "make"), (0, u "(II)Ljava/lang/String;"), (0, .class_ 15), (0, u "com/example/synlock/synlock/LockKeys"), (0, .methodref 14 17), (0, .nameAndType 5 18), (0, u "(Ljava/lang/String;)V"), (0, .methodref 20 21), (0, .class_ 22), (0, .nameAndType 23 24), (0, u "java/lang/String"), (0, u "equals"), (0, u "(Ljava/lang/Object;)Z"), (0, .methodref 14 26), (0, .nameAndType 27 28), (0, u "key"), (0, u "()Ljava/lang/String;"), (0, .methodref 14 21), (0, .methodref 20 31), (0, .nameAndType 5 32), (0, u "([C)V"), (2, u "law"), (0, u "(IIII)Z")] 3

def k1m0 : Method := { name := "<init>", desc := "()V", sig := { parameters := [], returnType := none }, accessFlags := 1, code := none }
def k1c1 : Code := { maxStack := 3, maxLocals := 12, code := code, exceptionTable := #[], attributes := #[] }
def k1m1 : Method := { name := "law", desc := "(IIII)Z", sig := { parameters := [.int, .int, .int, .int], returnType := some .boolean }, accessFlags := 9, code := some k1c1 }
def k1c2 : Code := { maxStack := 3, maxLocals := 6, code := method_3_code, exceptionTable := #[], attributes := #[] }
def k1m2 : Method := { name := "make", desc := "(II)Ljava/lang/String;", sig := { parameters := [.int, .int], returnType := some (.object "java/lang/String") }, accessFlags := 10, code := some k1c2 }
/-- com/example/synlock/synlock/LockKeysEqualsPinLaw -/
def k1 : Class := { plain "com/example/synlock/synlock/LockKeysEqualsPinLaw" (some 0) with
  accessFlags := 49
  interfaces := #[]
  cf := some (fileOf pool1 9 #[] #[{ accessFlags := 1, nameIndex := 5, descriptorIndex := 6, attributes := #[] }, { accessFlags := 9, nameIndex := 35, descriptorIndex := 36, attributes := #[] }, { accessFlags := 10, nameIndex := 12, descriptorIndex := 13, attributes := #[] }] 49 2 #[] #[])
  fields := #[]
  methods := #[k1m0, k1m1, k1m2]
  instanceTypes := #[]
  staticTypes := #[]
  resolved := Array.replicate 40 none
  statics := none }

def pool2 : Array CpInfo := pool [(1, .class_ 2), (0, u "java/io/Serializable"), (0, .class_ 4), (0, u "java/lang/Object")] 2

/-- java/io/Serializable -/
def k2 : Class := { plain "java/io/Serializable" (some 0) with
  accessFlags := 1537
  interfaces := #[]
  cf := some (fileOf pool2 1 #[] #[] 1537 3 #[] #[])
  fields := #[]
  methods := #[]
  instanceTypes := #[]
  staticTypes := #[]
  resolved := Array.replicate 7 none
  statics := none }

def pool3 : Array CpInfo := pool [(1, .class_ 2), (0, u "java/lang/Comparable"), (0, .class_ 4), (0, u "java/lang/Object")] 7

/-- java/lang/Comparable -/
def k3 : Class := { plain "java/lang/Comparable" (some 0) with
  accessFlags := 1537
  interfaces := #[]
  cf := some (fileOf pool3 1 #[] #[] 1537 3 #[] #[])
  fields := #[]
  methods := #[]
  instanceTypes := #[]
  staticTypes := #[]
  resolved := Array.replicate 12 none
  statics := none }

def pool4 : Array CpInfo := pool [(2, .class_ 4), (1, u "java/lang/CharSequence"), (42, .class_ 48), (0, u "java/lang/CharSequence$1CodePointIterator"), (10, .class_ 60), (0, u "java/lang/CharSequence$1CharIterator"), (5, .class_ 67), (0, u "java/lang/Object")] 63

/-- java/lang/CharSequence -/
def k4 : Class := { plain "java/lang/CharSequence" (some 0) with
  accessFlags := 1537
  interfaces := #[]
  cf := some (fileOf pool4 2 #[.nestMembers #[47, 59]] #[] 1537 66 #[] #[])
  fields := #[]
  methods := #[]
  instanceTypes := #[]
  staticTypes := #[]
  resolved := Array.replicate 131 none
  statics := none }

def pool5 : Array CpInfo := pool [(1, .class_ 2), (0, u "java/lang/constant/Constable"), (0, .class_ 4), (0, u "java/lang/Object")] 6

/-- java/lang/constant/Constable -/
def k5 : Class := { plain "java/lang/constant/Constable" (some 0) with
  accessFlags := 1537
  interfaces := #[]
  cf := some (fileOf pool5 1 #[] #[] 1537 3 #[] #[])
  fields := #[]
  methods := #[]
  instanceTypes := #[]
  staticTypes := #[]
  resolved := Array.replicate 11 none
  statics := none }

def pool6 : Array CpInfo := pool [(1, .class_ 2), (0, u "java/lang/constant/ConstantDesc"), (0, .class_ 4), (0, u "java/lang/Object")] 32

/-- java/lang/constant/ConstantDesc -/
def k6 : Class := { plain "java/lang/constant/ConstantDesc" (some 0) with
  accessFlags := 1537
  interfaces := #[]
  cf := some (fileOf pool6 1 #[] #[] 1537 3 #[] #[])
  fields := #[]
  methods := #[]
  instanceTypes := #[]
  staticTypes := #[]
  resolved := Array.replicate 37 none
  statics := none }

def pool7 : Array CpInfo := pool [(1, .methodref 2 3), (0, .class_ 4), (0, .nameAndType 5 6), (0, u "java/lang/Object"), (0, u "<init>"), (0, u "()V"), (2, .fieldref 10 11), (0, .class_ 12), (0, .nameAndType 13 14), (0, u "java/lang/String"), (0, u "value"), (0, u "[B"), (0, .fieldref 10 16), (0, .nameAndType 17 18), (0, u "coder"), (0, u "B"), (2, u "hash"), (0, u "I"), (2, u "hashIsZero"), (0, u "Z"), (0, .methodref 10 28), (0, .nameAndType 5 29), (0, u "([CIILjava/lang/Void;)V"), (8, .fieldref 10 39), (0, .nameAndType 40 26), (0, u "COMPACT_STRINGS"), (1, .class_ 44), (1, u "java/lang/StringUTF16"), (0, u "compress"), (1, .methodref 42 48), (0, .nameAndType 49 50), (0, u "coderFromArrayLen"), (0, u "([BI)B"), (3, .methodref 55 56), (0, .class_ 57), (0, .nameAndType 58 59), (0, u "java/util/Arrays"), (0, u "copyOfRange"), (0, u "([BII)[B"), (47, .class_ 109), (1, u "java/lang/StringLatin1"), (32, u "()Z"), (34, .methodref 42 178), (0, .nameAndType 45 179), (0, u "([CII)[B"), (13, .class_ 195), (1, u "java/lang/System"), (16, .methodref 193 213), (0, .nameAndType 214 215), (0, u "arraycopy"), (0, u "(Ljava/lang/Object;ILjava/lang/Object;II)V"), (118, u "()I"), (0, .methodref 10 336), (0, .nameAndType 17 337), (0, u "()B"), (2, u "()[B"), (148, .methodref 10 490), (0, .nameAndType 5 491), (0, u "(Ljava/lang/AbstractStringBuilder;Ljava/lang/Void;)V"), (1, .nameAndType 494 142), (0, u "isLatin1"), (11, .nameAndType 507 334), (0, u "length"), (24, u "getBytes"), (8, .methodref 107 542), (0, .nameAndType 543 544), (0, u "equals"), (0, u "([B[B)Z"), (4, .methodref 550 506), (0, .class_ 551), (0, u "java/lang/AbstractStringBuilder"), (0, .methodref 550 553), (0, .nameAndType 554 340), (0, u "getValue"), (18, u "(Ljava/lang/Object;)Z"), (1, .class_ 576), (0, u "java/lang/CharSequence"), (22, u "CASE_INSENSITIVE_ORDER"), (0, u "Ljava/util/Comparator;"), (91, u "isEmpty"), (128, u "([BIB)V"), (188, u "([C)V"), (36, .methodref 550 493), (53, u "serialPersistentFields"), (0, u "[Ljava/io/ObjectStreamField;"), (0, .class_ 1104), (0, u "java/lang/String$CaseInsensitiveComparator"), (1, .class_ 1107), (0, u "java/io/Serializable"), (0, .class_ 1109), (0, u "java/lang/Comparable"), (0, .class_ 1111), (0, u "java/lang/constant/Constable"), (0, .class_ 1113), (0, u "java/lang/constant/ConstantDesc"), (2, u "serialVersionUID"), (0, u "J"), (3, u "REPL"), (0, u "C"), (2, u "LATIN1"), (1, u "UTF16"), (105, u "(Ljava/lang/StringBuilder;)V")] 217

def k7m0 : Method := { name := "<init>", desc := "()V", sig := { parameters := [], returnType := none }, accessFlags := 1, code := none }
def k7c1 : Code := { maxStack := 5, maxLocals := 2, code := jdk_42_method_3_code, exceptionTable := #[], attributes := #[] }
def k7m1 : Method := { name := "<init>", desc := "([C)V", sig := { parameters := [(.array .char)], returnType := none }, accessFlags := 1, code := some k7c1 }
def k7c2 : Code := { maxStack := 3, maxLocals := 2, code := jdk_42_method_53_code, exceptionTable := #[], attributes := #[] }
def k7m2 : Method := { name := "<init>", desc := "(Ljava/lang/StringBuilder;)V", sig := { parameters := [(.object "java/lang/StringBuilder")], returnType := none }, accessFlags := 1, code := some k7c2 }
def k7c3 : Code := { maxStack := 2, maxLocals := 1, code := jdk_42_method_54_code, exceptionTable := #[], attributes := #[] }
def k7m3 : Method := { name := "length", desc := "()I", sig := { parameters := [], returnType := some .int }, accessFlags := 1, code := some k7c3 }
def k7c4 : Code := { maxStack := 1, maxLocals := 1, code := jdk_42_method_55_code, exceptionTable := #[], attributes := #[] }
def k7m4 : Method := { name := "isEmpty", desc := "()Z", sig := { parameters := [], returnType := some .boolean }, accessFlags := 1, code := some k7c4 }
def k7c5 : Code := { maxStack := 2, maxLocals := 3, code := jdk_42_method_66_code, exceptionTable := #[], attributes := #[] }
def k7m5 : Method := { name := "equals", desc := "(Ljava/lang/Object;)Z", sig := { parameters := [(.object "java/lang/Object")], returnType := some .boolean }, accessFlags := 1, code := some k7c5 }
def k7c6 : Code := { maxStack := 5, maxLocals := 4, code := jdk_42_method_147_code, exceptionTable := #[], attributes := #[] }
def k7m6 : Method := { name := "getBytes", desc := "([BIB)V", sig := { parameters := [(.array .byte), .int, .byte], returnType := none }, accessFlags := 0, code := some k7c6 }
def k7c7 : Code := { maxStack := 4, maxLocals := 6, code := jdk_42_method_149_code, exceptionTable := #[], attributes := #[] }
def k7m7 : Method := { name := "<init>", desc := "([CIILjava/lang/Void;)V", sig := { parameters := [(.array .char), .int, .int, (.object "java/lang/Void")], returnType := none }, accessFlags := 2, code := some k7c7 }
def k7c8 : Code := { maxStack := 5, maxLocals := 5, code := jdk_42_method_150_code, exceptionTable := #[], attributes := #[] }
def k7m8 : Method := { name := "<init>", desc := "(Ljava/lang/AbstractStringBuilder;Ljava/lang/Void;)V", sig := { parameters := [(.object "java/lang/AbstractStringBuilder"), (.object "java/lang/Void")], returnType := none }, accessFlags := 0, code := some k7c8 }
def k7c9 : Code := { maxStack := 1, maxLocals := 1, code := jdk_42_method_152_code, exceptionTable := #[], attributes := #[] }
def k7m9 : Method := { name := "coder", desc := "()B", sig := { parameters := [], returnType := some .byte }, accessFlags := 0, code := some k7c9 }
/-- java/lang/String -/
def k7 : Class := { plain "java/lang/String" (some 0) with
  accessFlags := 49
  interfaces := #[2, 3, 4, 5, 6]
  cf := some (fileOf pool7 10 #[.nestMembers #[1103]] #[{ accessFlags := 1, nameIndex := 5, descriptorIndex := 6, attributes := #[] }, { accessFlags := 1, nameIndex := 5, descriptorIndex := 1010, attributes := #[] }, { accessFlags := 1, nameIndex := 5, descriptorIndex := 1233, attributes := #[] }, { accessFlags := 1, nameIndex := 507, descriptorIndex := 334, attributes := #[] }, { accessFlags := 1, nameIndex := 692, descriptorIndex := 142, attributes := #[] }, { accessFlags := 1, nameIndex := 543, descriptorIndex := 573, attributes := #[] }, { accessFlags := 0, nameIndex := 532, descriptorIndex := 821, attributes := #[] }, { accessFlags := 2, nameIndex := 5, descriptorIndex := 29, attributes := #[] }, { accessFlags := 0, nameIndex := 5, descriptorIndex := 491, attributes := #[] }, { accessFlags := 0, nameIndex := 17, descriptorIndex := 337, attributes := #[] }] 49 2 #[1106, 1108, 575, 1110, 1112] #[{ accessFlags := 18, nameIndex := 13, descriptorIndex := 14, attributes := #[] }, { accessFlags := 18, nameIndex := 17, descriptorIndex := 18, attributes := #[] }, { accessFlags := 2, nameIndex := 21, descriptorIndex := 22, attributes := #[] }, { accessFlags := 2, nameIndex := 25, descriptorIndex := 26, attributes := #[] }, { accessFlags := 26, nameIndex := 1116, descriptorIndex := 1117, attributes := #[] }, { accessFlags := 24, nameIndex := 40, descriptorIndex := 26, attributes := #[] }, { accessFlags := 26, nameIndex := 1101, descriptorIndex := 1102, attributes := #[] }, { accessFlags := 26, nameIndex := 1121, descriptorIndex := 1122, attributes := #[] }, { accessFlags := 25, nameIndex := 599, descriptorIndex := 600, attributes := #[] }, { accessFlags := 24, nameIndex := 1125, descriptorIndex := 18, attributes := #[] }, { accessFlags := 24, nameIndex := 1127, descriptorIndex := 18, attributes := #[] }])
  fields := #[{ name := "value", type := (.array .byte), accessFlags := 18, slot := 0, constantValue := 0 }, { name := "coder", type := .byte, accessFlags := 18, slot := 1, constantValue := 0 }, { name := "hash", type := .int, accessFlags := 2, slot := 2, constantValue := 0 }, { name := "hashIsZero", type := .boolean, accessFlags := 2, slot := 3, constantValue := 0 }, { name := "serialVersionUID", type := .long, accessFlags := 26, slot := 0, constantValue := 0 }, { name := "COMPACT_STRINGS", type := .boolean, accessFlags := 24, slot := 1, constantValue := 0 }, { name := "serialPersistentFields", type := (.array (.object "java/io/ObjectStreamField")), accessFlags := 26, slot := 2, constantValue := 0 }, { name := "REPL", type := .char, accessFlags := 26, slot := 3, constantValue := 0 }, { name := "CASE_INSENSITIVE_ORDER", type := (.object "java/util/Comparator"), accessFlags := 25, slot := 4, constantValue := 0 }, { name := "LATIN1", type := .byte, accessFlags := 24, slot := 5, constantValue := 0 }, { name := "UTF16", type := .byte, accessFlags := 24, slot := 6, constantValue := 0 }]
  methods := #[k7m0, k7m1, k7m2, k7m3, k7m4, k7m5, k7m6, k7m7, k7m8, k7m9]
  instanceTypes := #[(.array .byte), .byte, .int, .boolean]
  staticTypes := #[.long, .boolean, (.array (.object "java/io/ObjectStreamField")), .char, (.object "java/util/Comparator"), .byte, .byte]
  resolved := Array.replicate 1451 none
  statics := some 0 }

def pool8 : Array CpInfo := pool [(6, .class_ 8), (1, u "java/lang/Object"), (0, u "<init>"), (0, u "()V"), (1, .class_ 14), (1, u "java/lang/StringUTF16"), (31, u "$assertionsDisabled"), (0, u "Z"), (13, u "HI_BYTE_SHIFT"), (0, u "I"), (2, u "LO_BYTE_SHIFT"), (49, .methodref 12 116), (0, .nameAndType 117 118), (0, u "compress"), (0, u "([CI[BII)I"), (3, u "([CII)[B"), (138, u "coderFromArrayLen"), (0, u "([BI)B"), (106, .class_ 371), (1, u "java/lang/StringUTF16$LinesSpliterator"), (58, u "MAX_LENGTH"), (196, .class_ 628), (0, u "java/lang/StringUTF16$CodePointsSpliterator"), (0, .class_ 630), (0, u "java/lang/StringUTF16$CharsSpliterator")] 4

def k8m0 : Method := { name := "<init>", desc := "()V", sig := { parameters := [], returnType := none }, accessFlags := 0, code := none }
def k8c1 : Code := { maxStack := 2, maxLocals := 2, code := jdk_52_method_15_code, exceptionTable := #[], attributes := #[] }
def k8m1 : Method := { name := "coderFromArrayLen", desc := "([BI)B", sig := { parameters := [(.array .byte), .int], returnType := some .byte }, accessFlags := 8, code := some k8c1 }
def k8c2 : Code := { maxStack := 5, maxLocals := 6, code := jdk_52_method_16_code, exceptionTable := #[], attributes := #[] }
def k8m2 : Method := { name := "compress", desc := "([CII)[B", sig := { parameters := [(.array .char), .int, .int], returnType := some (.array .byte) }, accessFlags := 9, code := some k8c2 }
def k8c3 : Code := { maxStack := 3, maxLocals := 7, code := jdk_52_method_21_code, exceptionTable := #[], attributes := #[] }
def k8m3 : Method := { name := "compress", desc := "([CI[BII)I", sig := { parameters := [(.array .char), .int, (.array .byte), .int, .int], returnType := some .int }, accessFlags := 9, code := some k8c3 }
/-- java/lang/StringUTF16 -/
def k8 : Class := { plain "java/lang/StringUTF16" (some 0) with
  accessFlags := 48
  interfaces := #[]
  cf := some (fileOf pool8 12 #[.nestMembers #[627, 629, 369]] #[{ accessFlags := 0, nameIndex := 9, descriptorIndex := 10, attributes := #[] }, { accessFlags := 8, nameIndex := 261, descriptorIndex := 262, attributes := #[] }, { accessFlags := 9, nameIndex := 117, descriptorIndex := 122, attributes := #[] }, { accessFlags := 9, nameIndex := 117, descriptorIndex := 118, attributes := #[] }] 48 6 #[] #[{ accessFlags := 26, nameIndex := 61, descriptorIndex := 62, attributes := #[] }, { accessFlags := 26, nameIndex := 65, descriptorIndex := 62, attributes := #[] }, { accessFlags := 24, nameIndex := 430, descriptorIndex := 62, attributes := #[] }, { accessFlags := 4120, nameIndex := 46, descriptorIndex := 47, attributes := #[] }])
  fields := #[{ name := "HI_BYTE_SHIFT", type := .int, accessFlags := 26, slot := 0, constantValue := 0 }, { name := "LO_BYTE_SHIFT", type := .int, accessFlags := 26, slot := 1, constantValue := 0 }, { name := "MAX_LENGTH", type := .int, accessFlags := 24, slot := 2, constantValue := 0 }, { name := "$assertionsDisabled", type := .boolean, accessFlags := 4120, slot := 3, constantValue := 0 }]
  methods := #[k8m0, k8m1, k8m2, k8m3]
  instanceTypes := #[]
  staticTypes := #[.int, .int, .int, .boolean]
  resolved := Array.replicate 635 none
  statics := none }

def pool9 : Array CpInfo := pool [(1, .methodref 2 3), (0, .class_ 4), (0, .nameAndType 5 6), (0, u "java/lang/Object"), (0, u "<init>"), (0, u "()V"), (0, .string 8), (0, u "name"), (0, .methodref 10 11), (0, .class_ 12), (0, .nameAndType 13 14), (0, u "java/util/Objects"), (0, u "requireNonNull"), (0, u "(Ljava/lang/Object;Ljava/lang/String;)Ljava/lang/Object;"), (0, .methodref 16 17), (0, .class_ 18), (0, .nameAndType 19 20), (0, u "java/lang/String"), (0, u "isEmpty"), (0, u "()Z"), (6, u "(Ljava/lang/String;)V"), (0, .class_ 29), (0, u "java/lang/StringBuilder"), (0, .methodref 28 3), (0, .class_ 32), (0, u "com/example/synlock/synlock/LockKeys"), (0, .string 34), (0, u "synlock:{"), (0, .methodref 28 36), (0, .nameAndType 37 38), (0, u "append"), (0, u "(Ljava/lang/String;)Ljava/lang/StringBuilder;"), (0, .string 40), (0, u "}"), (0, .methodref 28 42), (0, .nameAndType 43 44), (0, u "toString"), (0, u "()Ljava/lang/String;"), (0, .fieldref 31 46), (0, .nameAndType 47 48), (0, u "key"), (0, u "Ljava/lang/String;"), (7, .methodref 16 57), (0, .nameAndType 58 59), (0, u "equals"), (0, u "(Ljava/lang/Object;)Z"), (8, u "PREFIX")] 9

def k9c0 : Code := { maxStack := 3, maxLocals := 2, code := prog_4_method_1_code, exceptionTable := #[], attributes := #[] }
def k9m0 : Method := { name := "<init>", desc := "(Ljava/lang/String;)V", sig := { parameters := [(.object "java/lang/String")], returnType := none }, accessFlags := 0, code := some k9c0 }
def k9c1 : Code := { maxStack := 1, maxLocals := 1, code := prog_4_method_2_code, exceptionTable := #[], attributes := #[] }
def k9m1 : Method := { name := "key", desc := "()Ljava/lang/String;", sig := { parameters := [], returnType := some (.object "java/lang/String") }, accessFlags := 0, code := some k9c1 }
def k9c2 : Code := { maxStack := 2, maxLocals := 3, code := prog_4_method_5_code, exceptionTable := #[], attributes := #[] }
def k9m2 : Method := { name := "equals", desc := "(Ljava/lang/Object;)Z", sig := { parameters := [(.object "java/lang/Object")], returnType := some .boolean }, accessFlags := 1, code := some k9c2 }
/-- com/example/synlock/synlock/LockKeys -/
def k9 : Class := { plain "com/example/synlock/synlock/LockKeys" (some 0) with
  accessFlags := 48
  interfaces := #[]
  cf := some (fileOf pool9 31 #[] #[{ accessFlags := 0, nameIndex := 5, descriptorIndex := 27, attributes := #[] }, { accessFlags := 0, nameIndex := 47, descriptorIndex := 44, attributes := #[] }, { accessFlags := 1, nameIndex := 58, descriptorIndex := 59, attributes := #[] }] 48 2 #[] #[{ accessFlags := 26, nameIndex := 68, descriptorIndex := 48, attributes := #[] }, { accessFlags := 18, nameIndex := 47, descriptorIndex := 48, attributes := #[] }])
  fields := #[{ name := "PREFIX", type := (.object "java/lang/String"), accessFlags := 26, slot := 0, constantValue := 0 }, { name := "key", type := (.object "java/lang/String"), accessFlags := 18, slot := 0, constantValue := 0 }]
  methods := #[k9m0, k9m1, k9m2]
  instanceTypes := #[(.object "java/lang/String")]
  staticTypes := #[(.object "java/lang/String")]
  resolved := Array.replicate 78 none
  statics := none }

def pool10 : Array CpInfo := pool [(2, .class_ 4), (1, u "java/lang/Object"), (0, u "<init>"), (0, u "()V"), (35, .class_ 44), (1, u "java/util/Objects"), (0, u "requireNonNull"), (48, u "(Ljava/lang/Object;Ljava/lang/String;)Ljava/lang/Object;")] 89

def k10m0 : Method := { name := "<init>", desc := "()V", sig := { parameters := [], returnType := none }, accessFlags := 2, code := none }
def k10c1 : Code := { maxStack := 3, maxLocals := 2, code := jdk_31_method_11_code, exceptionTable := #[], attributes := #[] }
def k10m1 : Method := { name := "requireNonNull", desc := "(Ljava/lang/Object;Ljava/lang/String;)Ljava/lang/Object;", sig := { parameters := [(.object "java/lang/Object"), (.object "java/lang/String")], returnType := some (.object "java/lang/Object") }, accessFlags := 9, code := some k10c1 }
/-- java/util/Objects -/
def k10 : Class := { plain "java/util/Objects" (some 0) with
  accessFlags := 49
  interfaces := #[]
  cf := some (fileOf pool10 42 #[] #[{ accessFlags := 2, nameIndex := 5, descriptorIndex := 6, attributes := #[] }, { accessFlags := 9, nameIndex := 45, descriptorIndex := 94, attributes := #[] }] 49 2 #[] #[])
  fields := #[]
  methods := #[k10m0, k10m1]
  instanceTypes := #[]
  staticTypes := #[]
  resolved := Array.replicate 184 none
  statics := none }

def pool11 : Array CpInfo := pool [(1, .class_ 2), (0, u "java/lang/Appendable"), (0, .class_ 4), (0, u "java/lang/Object")] 9

/-- java/lang/Appendable -/
def k11 : Class := { plain "java/lang/Appendable" (some 0) with
  accessFlags := 1537
  interfaces := #[]
  cf := some (fileOf pool11 1 #[] #[] 1537 3 #[] #[])
  fields := #[]
  methods := #[]
  instanceTypes := #[]
  staticTypes := #[]
  resolved := Array.replicate 14 none
  statics := none }

def pool12 : Array CpInfo := pool [(1, .class_ 2), (0, u "java/lang/String"), (0, .methodref 4 5), (0, .class_ 6), (0, .nameAndType 7 8), (0, u "java/lang/Object"), (0, u "<init>"), (0, u "()V"), (1, .class_ 12), (1, u "java/lang/AbstractStringBuilder"), (0, u "EMPTYVALUE"), (0, u "[B"), (0, .fieldref 10 16), (0, .nameAndType 17 14), (0, u "value"), (0, .fieldref 1 19), (0, .nameAndType 20 21), (0, u "COMPACT_STRINGS"), (0, u "Z"), (0, .fieldref 10 23), (0, .nameAndType 24 25), (0, u "coder"), (0, u "B"), (6, .methodref 1 33), (0, .nameAndType 34 35), (0, u "length"), (0, u "()I"), (4, .methodref 1 41), (0, .nameAndType 24 42), (0, u "()B"), (2, u "append"), (0, u "(Ljava/lang/String;)Ljava/lang/AbstractStringBuilder;"), (1, .class_ 49), (0, u "java/lang/CharSequence"), (19, u "(Ljava/lang/String;)V"), (5, u "maybeLatin1"), (3, .fieldref 10 80), (0, .nameAndType 81 82), (0, u "count"), (0, u "I"), (2, u "isLatin1"), (0, u "()Z"), (13, .methodref 10 101), (0, .nameAndType 102 103), (0, u "ensureCapacityInternal"), (0, u "(I)V"), (104, .methodref 10 209), (0, .nameAndType 210 211), (0, u "putStringAt"), (0, u "(ILjava/lang/String;)V"), (5, u "inflateIfNeededFor"), (2, .nameAndType 221 222), (0, u "getBytes"), (0, u "([BIB)V"), (174, .methodref 10 398), (0, .nameAndType 217 69), (0, .methodref 1 220), (3, u "()[B"), (40, .class_ 445), (0, u "java/lang/Appendable"), (106, u "getValue")] 56

def k12m0 : Method := { name := "<init>", desc := "()V", sig := { parameters := [], returnType := none }, accessFlags := 0, code := none }
def k12c1 : Code := { maxStack := 2, maxLocals := 2, code := jdk_68_method_2_code, exceptionTable := #[], attributes := #[] }
def k12m1 : Method := { name := "<init>", desc := "(I)V", sig := { parameters := [.int], returnType := none }, accessFlags := 0, code := some k12c1 }
def k12c2 : Code := { maxStack := 1, maxLocals := 1, code := jdk_68_method_6_code, exceptionTable := #[], attributes := #[] }
def k12m2 : Method := { name := "length", desc := "()I", sig := { parameters := [], returnType := some .int }, accessFlags := 1, code := some k12c2 }
def k12c3 : Code := { maxStack := 4, maxLocals := 3, code := jdk_68_method_9_code, exceptionTable := #[], attributes := #[] }
def k12m3 : Method := { name := "ensureCapacityInternal", desc := "(I)V", sig := { parameters := [.int], returnType := none }, accessFlags := 2, code := some k12c3 }
def k12c4 : Code := { maxStack := 3, maxLocals := 3, code := jdk_68_method_22_code, exceptionTable := #[], attributes := #[] }
def k12m4 : Method := { name := "append", desc := "(Ljava/lang/String;)Ljava/lang/AbstractStringBuilder;", sig := { parameters := [(.object "java/lang/String")], returnType := some (.object "java/lang/AbstractStringBuilder") }, accessFlags := 1, code := some k12c4 }
def k12c5 : Code := { maxStack := 1, maxLocals := 1, code := jdk_68_method_64_code, exceptionTable := #[], attributes := #[] }
def k12m5 : Method := { name := "getValue", desc := "()[B", sig := { parameters := [], returnType := some (.array .byte) }, accessFlags := 16, code := some k12c5 }
def k12c6 : Code := { maxStack := 1, maxLocals := 1, code := jdk_68_method_68_code, exceptionTable := #[], attributes := #[] }
def k12m6 : Method := { name := "isLatin1", desc := "()Z", sig := { parameters := [], returnType := some .boolean }, accessFlags := 16, code := some k12c6 }
def k12c7 : Code := { maxStack := 2, maxLocals := 2, code := jdk_68_method_71_code, exceptionTable := #[], attributes := #[] }
def k12m7 : Method := { name := "inflateIfNeededFor", desc := "(Ljava/lang/String;)V", sig := { parameters := [(.object "java/lang/String")], returnType := none }, accessFlags := 2, code := some k12c7 }
def k12c8 : Code := { maxStack := 4, maxLocals := 3, code := jdk_68_method_73_code, exceptionTable := #[], attributes := #[] }
def k12m8 : Method := { name := "putStringAt", desc := "(ILjava/lang/String;)V", sig := { parameters := [.int, (.object "java/lang/String")], returnType := none }, accessFlags := 2, code := some k12c8 }
/-- java/lang/AbstractStringBuilder -/
def k12 : Class := { plain "java/lang/AbstractStringBuilder" (some 0) with
  accessFlags := 1056
  interfaces := #[11, 4]
  cf := some (fileOf pool12 10 #[] #[{ accessFlags := 0, nameIndex := 7, descriptorIndex := 8, attributes := #[] }, { accessFlags := 0, nameIndex := 7, descriptorIndex := 103, attributes := #[] }, { accessFlags := 1, nameIndex := 34, descriptorIndex := 35, attributes := #[] }, { accessFlags := 2, nameIndex := 102, descriptorIndex := 103, attributes := #[] }, { accessFlags := 1, nameIndex := 45, descriptorIndex := 46, attributes := #[] }, { accessFlags := 16, nameIndex := 552, descriptorIndex := 403, attributes := #[] }, { accessFlags := 16, nameIndex := 85, descriptorIndex := 86, attributes := #[] }, { accessFlags := 2, nameIndex := 217, descriptorIndex := 69, attributes := #[] }, { accessFlags := 2, nameIndex := 210, descriptorIndex := 211, attributes := #[] }] 1056 4 #[444, 48] #[{ accessFlags := 0, nameIndex := 17, descriptorIndex := 14, attributes := #[] }, { accessFlags := 0, nameIndex := 24, descriptorIndex := 25, attributes := #[] }, { accessFlags := 0, nameIndex := 75, descriptorIndex := 21, attributes := #[] }, { accessFlags := 0, nameIndex := 81, descriptorIndex := 82, attributes := #[] }, { accessFlags := 26, nameIndex := 13, descriptorIndex := 14, attributes := #[] }])
  fields := #[{ name := "value", type := (.array .byte), accessFlags := 0, slot := 0, constantValue := 0 }, { name := "coder", type := .byte, accessFlags := 0, slot := 1, constantValue := 0 }, { name := "maybeLatin1", type := .boolean, accessFlags := 0, slot := 2, constantValue := 0 }, { name := "count", type := .int, accessFlags := 0, slot := 3, constantValue := 0 }, { name := "EMPTYVALUE", type := (.array .byte), accessFlags := 26, slot := 0, constantValue := 0 }]
  methods := #[k12m0, k12m1, k12m2, k12m3, k12m4, k12m5, k12m6, k12m7, k12m8]
  instanceTypes := #[(.array .byte), .byte, .boolean, .int]
  staticTypes := #[(.array .byte)]
  resolved := Array.replicate 609 none
  statics := none }

def pool13 : Array CpInfo := pool [(1, .methodref 2 3), (0, .class_ 4), (0, .nameAndType 5 6), (0, u "java/lang/AbstractStringBuilder"), (0, u "<init>"), (0, u "(I)V"), (11, .class_ 20), (1, u "java/lang/String"), (3, .class_ 26), (1, u "java/lang/StringBuilder"), (0, u "append"), (0, u "(Ljava/lang/String;)Ljava/lang/StringBuilder;"), (0, .methodref 2 30), (0, .nameAndType 27 31), (0, u "(Ljava/lang/String;)Ljava/lang/AbstractStringBuilder;"), (105, .methodref 18 138), (0, .nameAndType 5 139), (0, u "(Ljava/lang/StringBuilder;)V"), (5, u "()V"), (10, u "()I"), (186, .methodref 2 344), (0, .nameAndType 345 156), (0, u "length"), (3, .class_ 350), (0, u "java/lang/Appendable"), (0, .class_ 352), (0, u "java/io/Serializable"), (0, .class_ 354), (0, u "java/lang/Comparable"), (0, .class_ 356), (0, u "java/lang/CharSequence"), (0, u "serialVersionUID"), (0, u "J"), (40, u "toString"), (0, u "()Ljava/lang/String;")] 21

def k13c0 : Code := { maxStack := 2, maxLocals := 1, code := jdk_67_method_1_code, exceptionTable := #[], attributes := #[] }
def k13m0 : Method := { name := "<init>", desc := "()V", sig := { parameters := [], returnType := none }, accessFlags := 1, code := some k13c0 }
def k13c1 : Code := { maxStack := 2, maxLocals := 2, code := jdk_67_method_7_code, exceptionTable := #[], attributes := #[] }
def k13m1 : Method := { name := "append", desc := "(Ljava/lang/String;)Ljava/lang/StringBuilder;", sig := { parameters := [(.object "java/lang/String")], returnType := some (.object "java/lang/StringBuilder") }, accessFlags := 1, code := some k13c1 }
def k13c2 : Code := { maxStack := 3, maxLocals := 1, code := jdk_67_method_42_code, exceptionTable := #[], attributes := #[] }
def k13m2 : Method := { name := "toString", desc := "()Ljava/lang/String;", sig := { parameters := [], returnType := some (.object "java/lang/String") }, accessFlags := 1, code := some k13c2 }
def k13c3 : Code := { maxStack := 1, maxLocals := 1, code := jdk_67_method_93_code, exceptionTable := #[], attributes := #[] }
def k13m3 : Method := { name := "length", desc := "()I", sig := { parameters := [], returnType := some .int }, accessFlags := 4161, code := some k13c3 }
/-- java/lang/StringBuilder -/
def k13 : Class := { plain "java/lang/StringBuilder" (some 12) with
  accessFlags := 49
  interfaces := #[11, 2, 3, 4]
  cf := some (fileOf pool13 24 #[] #[{ accessFlags := 1, nameIndex := 5, descriptorIndex := 145, attributes := #[] }, { accessFlags := 1, nameIndex := 27, descriptorIndex := 28, attributes := #[] }, { accessFlags := 1, nameIndex := 399, descriptorIndex := 400, attributes := #[] }, { accessFlags := 4161, nameIndex := 345, descriptorIndex := 156, attributes := #[] }] 49 2 #[349, 351, 353, 355] #[{ accessFlags := 24, nameIndex := 357, descriptorIndex := 358, attributes := #[] }])
  fields := #[{ name := "serialVersionUID", type := .long, accessFlags := 24, slot := 0, constantValue := 0 }]
  methods := #[k13m0, k13m1, k13m2, k13m3]
  instanceTypes := #[(.array .byte), .byte, .boolean, .int]
  staticTypes := #[.long]
  resolved := Array.replicate 422 none
  statics := none }

def pool14 : Array CpInfo := pool [(2, .class_ 4), (1, u "java/lang/Object"), (0, u "<init>"), (0, u "()V"), (1, .class_ 10), (1, u "java/lang/System"), (0, u "allowSecurityManager"), (0, u "I"), (16, u "cons"), (0, u "Ljava/io/Console;"), (77, .class_ 110), (1, u "java/lang/System$CallersHolder"), (43, u "initialErrStream"), (0, u "Ljava/io/PrintStream;"), (19, u "security"), (0, u "Ljava/lang/SecurityManager;"), (31, .class_ 209), (0, u "java/lang/System$1"), (7, u "props"), (0, u "Ljava/util/Properties;"), (2, u "lineSeparator"), (0, u "Ljava/lang/String;"), (96, .class_ 321), (1, u "java/lang/System$LoggerFinder"), (5, .class_ 328), (0, u "java/lang/System$Logger"), (67, u "err"), (2, u "out"), (91, u "notSupportedJnuEncoding"), (15, u "in"), (17, u "initialIn"), (0, u "Ljava/io/InputStream;"), (35, u "bootLayer"), (0, u "Ljava/lang/ModuleLayer;"), (99, .class_ 664), (0, u "java/lang/System$2"), (9, u "NEVER"), (2, u "MAYBE"), (49, u "arraycopy"), (0, u "(Ljava/lang/Object;ILjava/lang/Object;II)V"), (72, .class_ 802), (0, u "java/lang/System$Logger$Level")] 31

def k14m0 : Method := { name := "<init>", desc := "()V", sig := { parameters := [], returnType := none }, accessFlags := 2, code := none }
def k14m1 : Method := { name := "arraycopy", desc := "(Ljava/lang/Object;ILjava/lang/Object;II)V", sig := { parameters := [(.object "java/lang/Object"), .int, (.object "java/lang/Object"), .int, .int], returnType := none }, accessFlags := 265, code := none }
/-- java/lang/System -/
def k14 : Class := { plain "java/lang/System" (some 0) with
  accessFlags := 49
  interfaces := #[]
  cf := some (fileOf pool14 8 #[.nestMembers #[319, 327, 801, 108, 663, 208]] #[{ accessFlags := 2, nameIndex := 5, descriptorIndex := 6, attributes := #[] }, { accessFlags := 265, nameIndex := 727, descriptorIndex := 728, attributes := #[] }] 49 2 #[] #[{ accessFlags := 25, nameIndex := 507, descriptorIndex := 526, attributes := #[] }, { accessFlags := 25, nameIndex := 399, descriptorIndex := 155, attributes := #[] }, { accessFlags := 25, nameIndex := 396, descriptorIndex := 155, attributes := #[] }, { accessFlags := 10, nameIndex := 525, descriptorIndex := 526, attributes := #[] }, { accessFlags := 26, nameIndex := 674, descriptorIndex := 12, attributes := #[] }, { accessFlags := 26, nameIndex := 677, descriptorIndex := 12, attributes := #[] }, { accessFlags := 10, nameIndex := 11, descriptorIndex := 12, attributes := #[] }, { accessFlags := 74, nameIndex := 175, descriptorIndex := 176, attributes := #[] }, { accessFlags := 10, nameIndex := 491, descriptorIndex := 222, attributes := #[] }, { accessFlags := 74, nameIndex := 29, descriptorIndex := 30, attributes := #[] }, { accessFlags := 74, nameIndex := 154, descriptorIndex := 155, attributes := #[] }, { accessFlags := 10, nameIndex := 217, descriptorIndex := 218, attributes := #[] }, { accessFlags := 10, nameIndex := 221, descriptorIndex := 222, attributes := #[] }, { accessFlags := 8, nameIndex := 562, descriptorIndex := 563, attributes := #[] }])
  fields := #[{ name := "in", type := (.object "java/io/InputStream"), accessFlags := 25, slot := 0, constantValue := 0 }, { name := "out", type := (.object "java/io/PrintStream"), accessFlags := 25, slot := 1, constantValue := 0 }, { name := "err", type := (.object "java/io/PrintStream"), accessFlags := 25, slot := 2, constantValue := 0 }, { name := "initialIn", type := (.object "java/io/InputStream"), accessFlags := 10, slot := 3, constantValue := 0 }, { name := "NEVER", type := .int, accessFlags := 26, slot := 4, constantValue := 0 }, { name := "MAYBE", type := .int, accessFlags := 26, slot := 5, constantValue := 0 }, { name := "allowSecurityManager", type := .int, accessFlags := 10, slot := 6, constantValue := 0 }, { name := "security", type := (.object "java/lang/SecurityManager"), accessFlags := 74, slot := 7, constantValue := 0 }, { name := "notSupportedJnuEncoding", type := (.object "java/lang/String"), accessFlags := 10, slot := 8, constantValue := 0 }, { name := "cons", type := (.object "java/io/Console"), accessFlags := 74, slot := 9, constantValue := 0 }, { name := "initialErrStream", type := (.object "java/io/PrintStream"), accessFlags := 74, slot := 10, constantValue := 0 }, { name := "props", type := (.object "java/util/Properties"), accessFlags := 10, slot := 11, constantValue := 0 }, { name := "lineSeparator", type := (.object "java/lang/String"), accessFlags := 10, slot := 12, constantValue := 0 }, { name := "bootLayer", type := (.object "java/lang/ModuleLayer"), accessFlags := 8, slot := 13, constantValue := 0 }]
  methods := #[k14m0, k14m1]
  instanceTypes := #[]
  staticTypes := #[(.object "java/io/InputStream"), (.object "java/io/PrintStream"), (.object "java/io/PrintStream"), (.object "java/io/InputStream"), .int, .int, .int, (.object "java/lang/SecurityManager"), (.object "java/lang/String"), (.object "java/io/Console"), (.object "java/io/PrintStream"), (.object "java/util/Properties"), (.object "java/lang/String"), (.object "java/lang/ModuleLayer")]
  resolved := Array.replicate 834 none
  statics := none }

def pool15 : Array CpInfo := pool [(2, .class_ 4), (1, u "java/lang/Object"), (0, u "<init>"), (0, u "()V"), (7, .class_ 16), (1, u "java/util/Arrays"), (57, .class_ 76), (1, u "java/util/Arrays$NaturalOrder"), (36, .class_ 115), (1, u "java/util/Arrays$LegacyMergeSort"), (1, u "Z"), (21, u "copyOfRange"), (10, .methodref 151 152), (0, .class_ 153), (0, .nameAndType 154 155), (0, u "java/lang/System"), (0, u "arraycopy"), (0, u "(Ljava/lang/Object;ILjava/lang/Object;II)V"), (148, .methodref 305 306), (0, .class_ 307), (0, .nameAndType 308 309), (0, u "java/lang/Math"), (0, u "min"), (0, u "(II)I"), (29, .methodref 14 340), (0, .nameAndType 341 342), (0, u "copyOfRangeByte"), (0, u "([BII)[B"), (0, .methodref 14 344), (0, .nameAndType 345 346), (0, u "checkLength"), (0, u "(II)V"), (28, .class_ 376), (0, u "java/util/Arrays$ArrayList"), (68, u "$assertionsDisabled"), (269, u "MIN_ARRAY_SORT_GRAN"), (0, u "I"), (2, u "INSERTIONSORT_THRESHOLD"), (255, .class_ 976), (0, u "java/util/Arrays$ArrayItr")] 52

def k15m0 : Method := { name := "<init>", desc := "()V", sig := { parameters := [], returnType := none }, accessFlags := 2, code := none }
def k15c1 : Code := { maxStack := 4, maxLocals := 2, code := jdk_65_method_131_code, exceptionTable := #[], attributes := #[] }
def k15m1 : Method := { name := "checkLength", desc := "(II)V", sig := { parameters := [.int, .int], returnType := none }, accessFlags := 10, code := some k15c1 }
def k15c2 : Code := { maxStack := 3, maxLocals := 3, code := jdk_65_method_132_code, exceptionTable := #[], attributes := #[] }
def k15m2 : Method := { name := "copyOfRange", desc := "([BII)[B", sig := { parameters := [(.array .byte), .int, .int], returnType := some (.array .byte) }, accessFlags := 9, code := some k15c2 }
def k15c3 : Code := { maxStack := 6, maxLocals := 5, code := jdk_65_method_133_code, exceptionTable := #[], attributes := #[] }
def k15m3 : Method := { name := "copyOfRangeByte", desc := "([BII)[B", sig := { parameters := [(.array .byte), .int, .int], returnType := some (.array .byte) }, accessFlags := 10, code := some k15c3 }
/-- java/util/Arrays -/
def k15 : Class := { plain "java/util/Arrays" (some 0) with
  accessFlags := 49
  interfaces := #[]
  cf := some (fileOf pool15 14 #[.nestMembers #[975, 375, 113, 74]] #[{ accessFlags := 2, nameIndex := 5, descriptorIndex := 6, attributes := #[] }, { accessFlags := 10, nameIndex := 345, descriptorIndex := 346, attributes := #[] }, { accessFlags := 9, nameIndex := 139, descriptorIndex := 342, attributes := #[] }, { accessFlags := 10, nameIndex := 341, descriptorIndex := 342, attributes := #[] }] 49 2 #[] #[{ accessFlags := 26, nameIndex := 715, descriptorIndex := 716, attributes := #[] }, { accessFlags := 26, nameIndex := 719, descriptorIndex := 716, attributes := #[] }, { accessFlags := 4120, nameIndex := 445, descriptorIndex := 117, attributes := #[] }])
  fields := #[{ name := "MIN_ARRAY_SORT_GRAN", type := .int, accessFlags := 26, slot := 0, constantValue := 0 }, { name := "INSERTIONSORT_THRESHOLD", type := .int, accessFlags := 26, slot := 1, constantValue := 0 }, { name := "$assertionsDisabled", type := .boolean, accessFlags := 4120, slot := 2, constantValue := 0 }]
  methods := #[k15m0, k15m1, k15m2, k15m3]
  instanceTypes := #[]
  staticTypes := #[.int, .int, .boolean]
  resolved := Array.replicate 1029 none
  statics := none }

def pool16 : Array CpInfo := pool [(1, .class_ 2), (0, u "java/lang/Math"), (1, .class_ 6), (1, u "java/lang/Object"), (0, u "<init>"), (0, u "()V"), (89, .class_ 100), (1, u "java/lang/Math$RandomNumberGeneratorHolder"), (71, u "negativeZeroFloatBits"), (0, u "J"), (2, u "negativeZeroDoubleBits"), (24, u "min"), (43, u "$assertionsDisabled"), (0, u "Z"), (88, u "(II)I"), (2, u "twoToTheDoubleScaleDown"), (0, u "D"), (4, u "twoToTheDoubleScaleUp"), (9, u "E"), (3, u "PI"), (2, u "TAU"), (2, u "DEGREES_TO_RADIANS"), (0, u "RADIANS_TO_DEGREES")] 94

def k16m0 : Method := { name := "<init>", desc := "()V", sig := { parameters := [], returnType := none }, accessFlags := 2, code := none }
def k16c1 : Code := { maxStack := 2, maxLocals := 2, code := jdk_29_method_69_code, exceptionTable := #[], attributes := #[] }
def k16m1 : Method := { name := "min", desc := "(II)I", sig := { parameters := [.int, .int], returnType := some .int }, accessFlags := 9, code := some k16c1 }
/-- java/lang/Math -/
def k16 : Class := { plain "java/lang/Math" (some 0) with
  accessFlags := 49
  interfaces := #[]
  cf := some (fileOf pool16 1 #[.nestMembers #[98]] #[{ accessFlags := 2, nameIndex := 7, descriptorIndex := 8, attributes := #[] }, { accessFlags := 9, nameIndex := 201, descriptorIndex := 335, attributes := #[] }] 49 4 #[] #[{ accessFlags := 25, nameIndex := 354, descriptorIndex := 339, attributes := #[] }, { accessFlags := 25, nameIndex := 358, descriptorIndex := 339, attributes := #[] }, { accessFlags := 25, nameIndex := 361, descriptorIndex := 339, attributes := #[] }, { accessFlags := 26, nameIndex := 364, descriptorIndex := 339, attributes := #[] }, { accessFlags := 26, nameIndex := 365, descriptorIndex := 339, attributes := #[] }, { accessFlags := 26, nameIndex := 172, descriptorIndex := 173, attributes := #[] }, { accessFlags := 26, nameIndex := 176, descriptorIndex := 173, attributes := #[] }, { accessFlags := 8, nameIndex := 344, descriptorIndex := 339, attributes := #[] }, { accessFlags := 8, nameIndex := 338, descriptorIndex := 339, attributes := #[] }, { accessFlags := 4120, nameIndex := 245, descriptorIndex := 246, attributes := #[] }])
  fields := #[{ name := "E", type := .double, accessFlags := 25, slot := 0, constantValue := 0 }, { name := "PI", type := .double, accessFlags := 25, slot := 1, constantValue := 0 }, { name := "TAU", type := .double, accessFlags := 25, slot := 2, constantValue := 0 }, { name := "DEGREES_TO_RADIANS", type := .double, accessFlags := 26, slot := 3, constantValue := 0 }, { name := "RADIANS_TO_DEGREES", type := .double, accessFlags := 26, slot := 4, constantValue := 0 }, { name := "negativeZeroFloatBits", type := .long, accessFlags := 26, slot := 5, constantValue := 0 }, { name := "negativeZeroDoubleBits", type := .long, accessFlags := 26, slot := 6, constantValue := 0 }, { name := "twoToTheDoubleScaleUp", type := .double, accessFlags := 8, slot := 7, constantValue := 0 }, { name := "twoToTheDoubleScaleDown", type := .double, accessFlags := 8, slot := 8, constantValue := 0 }, { name := "$assertionsDisabled", type := .boolean, accessFlags := 4120, slot := 9, constantValue := 0 }]
  methods := #[k16m0, k16m1]
  instanceTypes := #[]
  staticTypes := #[.double, .double, .double, .double, .double, .long, .long, .double, .double, .boolean]
  resolved := Array.replicate 460 none
  statics := none }

def pool17 : Array CpInfo := pool [(4, .class_ 6), (1, u "java/lang/Object"), (0, u "<init>"), (0, u "()V"), (5, .class_ 16), (1, u "java/lang/StringLatin1"), (104, u "$assertionsDisabled"), (0, u "Z"), (98, .class_ 223), (1, u "java/lang/StringLatin1$LinesSpliterator"), (57, u "equals"), (0, u "([B[B)Z"), (107, .class_ 391), (0, u "java/lang/StringLatin1$CharsSpliterator")] 3

def k17m0 : Method := { name := "<init>", desc := "()V", sig := { parameters := [], returnType := none }, accessFlags := 0, code := none }
def k17c1 : Code := { maxStack := 3, maxLocals := 3, code := jdk_43_method_13_code, exceptionTable := #[], attributes := #[] }
def k17m1 : Method := { name := "equals", desc := "([B[B)Z", sig := { parameters := [(.array .byte), (.array .byte)], returnType := some .boolean }, accessFlags := 9, code := some k17c1 }
/-- java/lang/StringLatin1 -/
def k17 : Class := { plain "java/lang/StringLatin1" (some 0) with
  accessFlags := 48
  interfaces := #[]
  cf := some (fileOf pool17 14 #[.nestMembers #[390, 221]] #[{ accessFlags := 0, nameIndex := 7, descriptorIndex := 8, attributes := #[] }, { accessFlags := 9, nameIndex := 281, descriptorIndex := 282, attributes := #[] }] 48 4 #[] #[{ accessFlags := 4120, nameIndex := 121, descriptorIndex := 122, attributes := #[] }])
  fields := #[{ name := "$assertionsDisabled", type := .boolean, accessFlags := 4120, slot := 0, constantValue := 0 }]
  methods := #[k17m0, k17m1]
  instanceTypes := #[]
  staticTypes := #[.boolean]
  resolved := Array.replicate 395 none
  statics := none }

def pool18 : Array CpInfo := pool [(2, .class_ 4), (1, u "java/lang/Object"), (0, u "<init>"), (0, u "()V"), (17, .class_ 26), (1, u "jdk/internal/util/Preconditions"), (28, .class_ 56), (0, u "jdk/internal/util/Preconditions$4"), (57, .class_ 115), (0, u "jdk/internal/util/Preconditions$1"), (7, u "SIOOBE_FORMATTER"), (0, u "Ljava/util/function/BiFunction;"), (0, .class_ 126), (0, u "jdk/internal/util/Preconditions$2"), (3, u "AIOOBE_FORMATTER"), (0, .class_ 132), (0, u "jdk/internal/util/Preconditions$3"), (3, u "IOOBE_FORMATTER")] 57

def k18m0 : Method := { name := "<init>", desc := "()V", sig := { parameters := [], returnType := none }, accessFlags := 1, code := none }
/-- jdk/internal/util/Preconditions -/
def k18 : Class := { plain "jdk/internal/util/Preconditions" (some 0) with
  accessFlags := 33
  interfaces := #[]
  cf := some (fileOf pool18 24 #[.nestMembers #[55, 131, 125, 114]] #[{ accessFlags := 1, nameIndex := 5, descriptorIndex := 6, attributes := #[] }] 33 2 #[] #[{ accessFlags := 25, nameIndex := 123, descriptorIndex := 124, attributes := #[] }, { accessFlags := 25, nameIndex := 130, descriptorIndex := 124, attributes := #[] }, { accessFlags := 25, nameIndex := 136, descriptorIndex := 124, attributes := #[] }])
  fields := #[{ name := "SIOOBE_FORMATTER", type := (.object "java/util/function/BiFunction"), accessFlags := 25, slot := 0, constantValue := 0 }, { name := "AIOOBE_FORMATTER", type := (.object "java/util/function/BiFunction"), accessFlags := 25, slot := 1, constantValue := 0 }, { name := "IOOBE_FORMATTER", type := (.object "java/util/function/BiFunction"), accessFlags := 25, slot := 2, constantValue := 0 }]
  methods := #[k18m0]
  instanceTypes := #[]
  staticTypes := #[(.object "java/util/function/BiFunction"), (.object "java/util/function/BiFunction"), (.object "java/util/function/BiFunction")]
  resolved := Array.replicate 194 none
  statics := some 1 }

def pool19 : Array CpInfo := pool [(9, u "<init>"), (6, .class_ 18), (1, u "java/lang/Object"), (0, u "()V"), (1, .class_ 23), (1, u "jdk/internal/util/ArraysSupport"), (0, u "LOG2_ARRAY_LONG_INDEX_SCALE"), (0, u "I"), (2, u "U"), (0, u "Ljdk/internal/misc/Unsafe;"), (8, u "BIG_ENDIAN"), (0, u "Z"), (8, u "LOG2_BYTE_BIT_SIZE"), (4, u "LOG2_ARRAY_INT_INDEX_SCALE"), (54, u "JLA"), (0, u "Ljdk/internal/access/JavaLangAccess;"), (11, u "LOG2_ARRAY_BOOLEAN_INDEX_SCALE"), (9, u "LOG2_ARRAY_BYTE_INDEX_SCALE"), (5, u "LOG2_ARRAY_CHAR_INDEX_SCALE"), (5, u "LOG2_ARRAY_SHORT_INDEX_SCALE"), (18, u "LOG2_ARRAY_FLOAT_INDEX_SCALE"), (24, u "LOG2_ARRAY_DOUBLE_INDEX_SCALE"), (89, u "T_BOOLEAN"), (2, u "T_CHAR"), (1, u "T_FLOAT"), (1, u "T_DOUBLE"), (1, u "T_BYTE"), (1, u "T_SHORT"), (1, u "T_INT"), (1, u "T_LONG"), (1, u "SOFT_MAX_ARRAY_LENGTH")] 83

def k19m0 : Method := { name := "<init>", desc := "()V", sig := { parameters := [], returnType := none }, accessFlags := 2, code := none }
/-- jdk/internal/util/ArraysSupport -/
def k19 : Class := { plain "jdk/internal/util/ArraysSupport" (some 0) with
  accessFlags := 33
  interfaces := #[]
  cf := some (fileOf pool19 21 #[] #[{ accessFlags := 2, nameIndex := 9, descriptorIndex := 19, attributes := #[] }] 33 16 #[] #[{ accessFlags := 24, nameIndex := 28, descriptorIndex := 29, attributes := #[] }, { accessFlags := 26, nameIndex := 38, descriptorIndex := 39, attributes := #[] }, { accessFlags := 25, nameIndex := 121, descriptorIndex := 25, attributes := #[] }, { accessFlags := 25, nameIndex := 131, descriptorIndex := 25, attributes := #[] }, { accessFlags := 25, nameIndex := 137, descriptorIndex := 25, attributes := #[] }, { accessFlags := 25, nameIndex := 143, descriptorIndex := 25, attributes := #[] }, { accessFlags := 25, nameIndex := 53, descriptorIndex := 25, attributes := #[] }, { accessFlags := 25, nameIndex := 24, descriptorIndex := 25, attributes := #[] }, { accessFlags := 25, nameIndex := 162, descriptorIndex := 25, attributes := #[] }, { accessFlags := 25, nameIndex := 187, descriptorIndex := 25, attributes := #[] }, { accessFlags := 26, nameIndex := 48, descriptorIndex := 25, attributes := #[] }, { accessFlags := 25, nameIndex := 277, descriptorIndex := 25, attributes := #[] }, { accessFlags := 25, nameIndex := 280, descriptorIndex := 25, attributes := #[] }, { accessFlags := 25, nameIndex := 282, descriptorIndex := 25, attributes := #[] }, { accessFlags := 25, nameIndex := 284, descriptorIndex := 25, attributes := #[] }, { accessFlags := 25, nameIndex := 286, descriptorIndex := 25, attributes := #[] }, { accessFlags := 25, nameIndex := 288, descriptorIndex := 25, attributes := #[] }, { accessFlags := 25, nameIndex := 290, descriptorIndex := 25, attributes := #[] }, { accessFlags := 25, nameIndex := 292, descriptorIndex := 25, attributes := #[] }, { accessFlags := 26, nameIndex := 108, descriptorIndex := 109, attributes := #[] }, { accessFlags := 25, nameIndex := 294, descriptorIndex := 25, attributes := #[] }])
  fields := #[{ name := "U", type := (.object "jdk/internal/misc/Unsafe"), accessFlags := 24, slot := 0, constantValue := 0 }, { name := "BIG_ENDIAN", type := .boolean, accessFlags := 26, slot := 1, constantValue := 0 }, { name := "LOG2_ARRAY_BOOLEAN_INDEX_SCALE", type := .int, accessFlags := 25, slot := 2, constantValue := 0 }, { name := "LOG2_ARRAY_BYTE_INDEX_SCALE", type := .int, accessFlags := 25, slot := 3, constantValue := 0 }, { name := "LOG2_ARRAY_CHAR_INDEX_SCALE", type := .int, accessFlags := 25, slot := 4, constantValue := 0 }, { name := "LOG2_ARRAY_SHORT_INDEX_SCALE", type := .int, accessFlags := 25, slot := 5, constantValue := 0 }, { name := "LOG2_ARRAY_INT_INDEX_SCALE", type := .int, accessFlags := 25, slot := 6, constantValue := 0 }, { name := "LOG2_ARRAY_LONG_INDEX_SCALE", type := .int, accessFlags := 25, slot := 7, constantValue := 0 }, { name := "LOG2_ARRAY_FLOAT_INDEX_SCALE", type := .int, accessFlags := 25, slot := 8, constantValue := 0 }, { name := "LOG2_ARRAY_DOUBLE_INDEX_SCALE", type := .int, accessFlags := 25, slot := 9, constantValue := 0 }, { name := "LOG2_BYTE_BIT_SIZE", type := .int, accessFlags := 26, slot := 10, constantValue := 0 }, { name := "T_BOOLEAN", type := .int, accessFlags := 25, slot := 11, constantValue := 0 }, { name := "T_CHAR", type := .int, accessFlags := 25, slot := 12, constantValue := 0 }, { name := "T_FLOAT", type := .int, accessFlags := 25, slot := 13, constantValue := 0 }, { name := "T_DOUBLE", type := .int, accessFlags := 25, slot := 14, constantValue := 0 }, { name := "T_BYTE", type := .int, accessFlags := 25, slot := 15, constantValue := 0 }, { name := "T_SHORT", type := .int, accessFlags := 25, slot := 16, constantValue := 0 }, { name := "T_INT", type := .int, accessFlags := 25, slot := 17, constantValue := 0 }, { name := "T_LONG", type := .int, accessFlags := 25, slot := 18, constantValue := 0 }, { name := "JLA", type := (.object "jdk/internal/access/JavaLangAccess"), accessFlags := 26, slot := 19, constantValue := 0 }, { name := "SOFT_MAX_ARRAY_LENGTH", type := .int, accessFlags := 25, slot := 20, constantValue := 0 }]
  methods := #[k19m0]
  instanceTypes := #[]
  staticTypes := #[(.object "jdk/internal/misc/Unsafe"), .boolean, .int, .int, .int, .int, .int, .int, .int, .int, .int, .int, .int, .int, .int, .int, .int, .int, .int, (.object "jdk/internal/access/JavaLangAccess"), .int]
  resolved := Array.replicate 378 none
  statics := none }

def pool20 : Array CpInfo := pool [(1, u "java/lang/Cloneable"), (0, .class_ 1), (0, u "java/lang/Object"), (0, .class_ 3)] 3

/-- java/lang/Cloneable -/
def k20 : Class := { plain "java/lang/Cloneable" (some 0) with
  accessFlags := 1537
  interfaces := #[]
  cf := some (fileOf pool20 2 #[] #[] 1537 4 #[] #[])
  fields := #[]
  methods := #[]
  instanceTypes := #[]
  staticTypes := #[]
  resolved := Array.replicate 8 none
  statics := none }

/-- the primitive byte -/
def k21 : Class := { plain "byte" none with kind := .primitive 'B', accessFlags := 0x411 }
/-- [B -/
def k22 : Class := { plain "[B" (some 0) with kind := .array 21 .byte, interfaces := #[20, 2], accessFlags := 1041 }

/-- the primitive char -/
def k23 : Class := { plain "char" none with kind := .primitive 'C', accessFlags := 0x411 }
/-- [C -/
def k24 : Class := { plain "[C" (some 0) with kind := .array 23 .char, interfaces := #[20, 2], accessFlags := 1041 }

/-- the primitive int -/
def k25 : Class := { plain "int" none with kind := .primitive 'I', accessFlags := 0x411 }
/-- [I -/
def k26 : Class := { plain "[I" (some 0) with kind := .array 25 .int, interfaces := #[20, 2], accessFlags := 1041 }

def heap : Heap := #[{ cls := 7, slots := #[.long 0, .int 1, .null, .int 0, .null, .int 0, .int 0], vm := .statics 7 },
  { cls := 18, slots := #[.null, .null, .null], vm := .statics 18 }]
def classes : Array Class := #[k0, k1, k2, k3, k4, k5, k6, k7, k8, k9, k10, k11, k12, k13, k14, k15, k16, k17, k18, k19, k20, k21, k22, k23, k24, k25, k26]
def interned : List (Array UInt16 × Addr) := []
def slotsUsed : Nat := 10
def theMethod : MethodId := ⟨1, 1⟩
def args0 : Array Value := #[.int 5, .int 6, .int 7, .int 8]
def aboutOver (below : List Frame) : State where
  vm := { classes := classes, interned := interned.toArray }
  heap := heap
  slotsUsed := slotsUsed
  threads := #[{ frames := .invoking theMethod args0 :: below }]
def below0 : List Frame := [.native { method := ⟨0, 0⟩, args := #[] }]
def about1 : State := aboutOver below0
def p0 : Program := .bare "" "" ""
def e0 : Env := launch0.env 0 0 0
theorem w_frames : about1.frames = Frame.invoking theMethod args0 :: below0 := rfl
set_option maxRecDepth 65536 in
theorem w_args : argsFit about1.vm theMethod args0 = true := by decide +kernel
set_option maxRecDepth 65536 in
theorem w_heap : heapFits about1 = true := by decide +kernel
set_option maxRecDepth 65536 in
theorem w_runnable : about1.curStatus? = some .runnable := by decide +kernel
set_option maxRecDepth 65536 in
theorem w_alone : about1.alone = true := by decide +kernel
set_option maxRecDepth 65536 in
theorem w_named : about1.methodNamed? x = some theMethod := by decide +kernel
set_option maxRecDepth 65536 in
theorem w_hears : about1.hears theMethod below0 = true := by decide +kernel
set_option maxRecDepth 65536 in
theorem w_ripe : about1.ripe theMethod args0 below0 = true := by decide +kernel
theorem w_running : about1.status = .running := rfl
set_option maxRecDepth 65536 in
theorem w_room : about1.hasRoom e0.platform room_1 = true :=
  launch0.hasRoom_least _ room_1 (by decide +kernel) (by decide +kernel) (by decide +kernel) (by decide +kernel) (by decide +kernel) (by decide +kernel)
theorem allAtoms_all (ts : List Jvm.Cond) (a : Array Jvm.Value) (st : Jvm.State) : (allAtoms ts).before a st = ts.all (fun c => c.before a st) := by
  induction ts with
  | nil => rfl
  | cons c t ih =>
    show (Jvm.Cond.and c (allAtoms t)).before a st = _
    rw [Jvm.Cond.before_and, ih, List.all_cons]
def words1 : List Jvm.Cond := Jvm.Cond.code x code maxLocals ret :: tables_1
/-- a 'code' word, met by the world's own term for the bytes: nothing is compared byte by byte -/
theorem code_word {y : MethodName} {bytes : ByteArray} {mx : Nat} {rt : Option FieldType} {a : Array Value} {s : State} {m : MethodId} {meth : Method} {c : Code} (h1 : s.methodNamed? y = some m) (h2 : s.vm.method? m = some meth) (h3 : meth.code = some c) (h4 : c.code = bytes)
    (h5 : (c.maxLocals == mx && c.exceptionTable.isEmpty && decide (c.maxStack ≤ mostOperands) && decide (meth.sig.returnType = rt) && !meth.locks && decide (parseMethodDescriptor y.desc = some meth.sig)) = true) : (Jvm.Cond.code y bytes mx rt).before a s = true := by
  simp only [Bool.and_eq_true, beq_iff_eq, Bool.not_eq_true', decide_eq_true_eq] at h5
  obtain ⟨⟨⟨⟨⟨g1, g2⟩, g3⟩, g4⟩, g5⟩, g6⟩ := h5
  simp [Cond.before, Cond.holds, Cond.value, h1, h2, h3, h4, g1, g2, g3, g4, g5, g6]
def isCode : Jvm.Cond → Bool
  | .code _ _ _ _ => true
  | _ => false
theorem all_split {L : List Jvm.Cond} {P : Jvm.Cond → Bool} (h1 : L.all (fun c => isCode c || P c) = true) (h2 : ∀ c ∈ L.filter isCode, P c = true) : L.all P = true := by
  refine List.all_eq_true.mpr fun c hc => ?_
  have h := List.all_eq_true.mp h1 c hc
  rcases Bool.eq_false_or_eq_true (isCode c) with hi | hi
  · exact h2 c (List.mem_filter.mpr ⟨hc, hi⟩)
  · simpa [hi] using h
set_option maxRecDepth 65536 in
theorem w_c0 : (Jvm.Cond.code x code maxLocals ret).before args0 about1 = true := code_word (m := ⟨1, 1⟩) (meth := k1m1) (c := k1c1) (by decide +kernel) rfl rfl rfl (by decide +kernel)
set_option maxRecDepth 65536 in
theorem w_c1 : (Jvm.Cond.code ({ cls := "com/example/synlock/synlock/LockKeysEqualsPinLaw", name := "make", desc := "(II)Ljava/lang/String;" } : Jvm.MethodName) method_3_code (6 : Nat) (Option.some (Jvm.ClassFile.FieldType.object "java/lang/String"))).before args0 about1 = true := code_word (m := ⟨1, 2⟩) (meth := k1m2) (c := k1c2) (by decide +kernel) rfl rfl rfl (by decide +kernel)
set_option maxRecDepth 65536 in
theorem w_c2 : (Jvm.Cond.code ({ cls := "java/lang/String", name := "<init>", desc := "([C)V" } : Jvm.MethodName) jdk_42_method_3_code (2 : Nat) (Option.none : Option Jvm.ClassFile.FieldType)).before args0 about1 = true := code_word (m := ⟨7, 1⟩) (meth := k7m1) (c := k7c1) (by decide +kernel) rfl rfl rfl (by decide +kernel)
set_option maxRecDepth 65536 in
theorem w_c3 : (Jvm.Cond.code ({ cls := "java/lang/String", name := "<init>", desc := "([CIILjava/lang/Void;)V" } : Jvm.MethodName) jdk_42_method_149_code (6 : Nat) (Option.none : Option Jvm.ClassFile.FieldType)).before args0 about1 = true := code_word (m := ⟨7, 7⟩) (meth := k7m7) (c := k7c7) (by decide +kernel) rfl rfl rfl (by decide +kernel)
set_option maxRecDepth 65536 in
theorem w_c4 : (Jvm.Cond.code ({ cls := "java/lang/Object", name := "<init>", desc := "()V" } : Jvm.MethodName) object_method_1_code (1 : Nat) (Option.none : Option Jvm.ClassFile.FieldType)).before args0 about1 = true := code_word (m := ⟨0, 0⟩) (meth := k0m0) (c := k0c0) (by decide +kernel) rfl rfl rfl (by decide +kernel)
set_option maxRecDepth 65536 in
theorem w_c5 : (Jvm.Cond.code ({ cls := "java/lang/StringUTF16", name := "compress", desc := "([CII)[B" } : Jvm.MethodName) jdk_52_method_16_code (6 : Nat) (Option.some (Jvm.ClassFile.FieldType.array Jvm.ClassFile.FieldType.byte))).before args0 about1 = true := code_word (m := ⟨8, 2⟩) (meth := k8m2) (c := k8c2) (by decide +kernel) rfl rfl rfl (by decide +kernel)
set_option maxRecDepth 65536 in
theorem w_c6 : (Jvm.Cond.code ({ cls := "java/lang/StringUTF16", name := "compress", desc := "([CI[BII)I" } : Jvm.MethodName) jdk_52_method_21_code (7 : Nat) (Option.some Jvm.ClassFile.FieldType.int)).before args0 about1 = true := code_word (m := ⟨8, 3⟩) (meth := k8m3) (c := k8c3) (by decide +kernel) rfl rfl rfl (by decide +kernel)
set_option maxRecDepth 65536 in
theorem w_c7 : (Jvm.Cond.code ({ cls := "java/lang/StringUTF16", name := "coderFromArrayLen", desc := "([BI)B" } : Jvm.MethodName) jdk_52_method_15_code (2 : Nat) (Option.some Jvm.ClassFile.FieldType.byte)).before args0 about1 = true := code_word (m := ⟨8, 1⟩) (meth := k8m1) (c := k8c1) (by decide +kernel) rfl rfl rfl (by decide +kernel)
set_option maxRecDepth 65536 in
theorem w_c8 : (Jvm.Cond.code ({ cls := "com/example/synlock/synlock/LockKeys", name := "<init>", desc := "(Ljava/lang/String;)V" } : Jvm.MethodName) prog_4_method_1_code (2 : Nat) (Option.none : Option Jvm.ClassFile.FieldType)).before args0 about1 = true := code_word (m := ⟨9, 0⟩) (meth := k9m0) (c := k9c0) (by decide +kernel) rfl rfl rfl (by decide +kernel)
set_option maxRecDepth 65536 in
theorem w_c9 : (Jvm.Cond.code ({ cls := "java/util/Objects", name := "requireNonNull", desc := "(Ljava/lang/Object;Ljava/lang/String;)Ljava/lang/Object;" } : Jvm.MethodName) jdk_31_method_11_code (2 : Nat) (Option.some (Jvm.ClassFile.FieldType.object "java/lang/Object"))).before args0 about1 = true := code_word (m := ⟨10, 1⟩) (meth := k10m1) (c := k10c1) (by decide +kernel) rfl rfl rfl (by decide +kernel)
set_option maxRecDepth 65536 in
theorem w_c10 : (Jvm.Cond.code ({ cls := "java/lang/String", name := "isEmpty", desc := "()Z" } : Jvm.MethodName) jdk_42_method_55_code (1 : Nat) (Option.some Jvm.ClassFile.FieldType.boolean)).before args0 about1 = true := code_word (m := ⟨7, 4⟩) (meth := k7m4) (c := k7c4) (by decide +kernel) rfl rfl rfl (by decide +kernel)
set_option maxRecDepth 65536 in
theorem w_c11 : (Jvm.Cond.code ({ cls := "java/lang/StringBuilder", name := "<init>", desc := "()V" } : Jvm.MethodName) jdk_67_method_1_code (1 : Nat) (Option.none : Option Jvm.ClassFile.FieldType)).before args0 about1 = true := code_word (m := ⟨13, 0⟩) (meth := k13m0) (c := k13c0) (by decide +kernel) rfl rfl rfl (by decide +kernel)
set_option maxRecDepth 65536 in
theorem w_c12 : (Jvm.Cond.code ({ cls := "java/lang/AbstractStringBuilder", name := "<init>", desc := "(I)V" } : Jvm.MethodName) jdk_68_method_2_code (2 : Nat) (Option.none : Option Jvm.ClassFile.FieldType)).before args0 about1 = true := code_word (m := ⟨12, 1⟩) (meth := k12m1) (c := k12c1) (by decide +kernel) rfl rfl rfl (by decide +kernel)
set_option maxRecDepth 65536 in
theorem w_c13 : (Jvm.Cond.code ({ cls := "java/lang/StringBuilder", name := "append", desc := "(Ljava/lang/String;)Ljava/lang/StringBuilder;" } : Jvm.MethodName) jdk_67_method_7_code (2 : Nat) (Option.some (Jvm.ClassFile.FieldType.object "java/lang/StringBuilder"))).before args0 about1 = true := code_word (m := ⟨13, 1⟩) (meth := k13m1) (c := k13c1) (by decide +kernel) rfl rfl rfl (by decide +kernel)
set_option maxRecDepth 65536 in
theorem w_c14 : (Jvm.Cond.code ({ cls := "java/lang/AbstractStringBuilder", name := "append", desc := "(Ljava/lang/String;)Ljava/lang/AbstractStringBuilder;" } : Jvm.MethodName) jdk_68_method_22_code (3 : Nat) (Option.some (Jvm.ClassFile.FieldType.object "java/lang/AbstractStringBuilder"))).before args0 about1 = true := code_word (m := ⟨12, 4⟩) (meth := k12m4) (c := k12c4) (by decide +kernel) rfl rfl rfl (by decide +kernel)
set_option maxRecDepth 65536 in
theorem w_c15 : (Jvm.Cond.code ({ cls := "java/lang/String", name := "length", desc := "()I" } : Jvm.MethodName) jdk_42_method_54_code (1 : Nat) (Option.some Jvm.ClassFile.FieldType.int)).before args0 about1 = true := code_word (m := ⟨7, 3⟩) (meth := k7m3) (c := k7c3) (by decide +kernel) rfl rfl rfl (by decide +kernel)
set_option maxRecDepth 65536 in
theorem w_c16 : (Jvm.Cond.code ({ cls := "java/lang/String", name := "coder", desc := "()B" } : Jvm.MethodName) jdk_42_method_152_code (1 : Nat) (Option.some Jvm.ClassFile.FieldType.byte)).before args0 about1 = true := code_word (m := ⟨7, 9⟩) (meth := k7m9) (c := k7c9) (by decide +kernel) rfl rfl rfl (by decide +kernel)
set_option maxRecDepth 65536 in
theorem w_c17 : (Jvm.Cond.code ({ cls := "java/lang/AbstractStringBuilder", name := "ensureCapacityInternal", desc := "(I)V" } : Jvm.MethodName) jdk_68_method_9_code (3 : Nat) (Option.none : Option Jvm.ClassFile.FieldType)).before args0 about1 = true := code_word (m := ⟨12, 3⟩) (meth := k12m3) (c := k12c3) (by decide +kernel) rfl rfl rfl (by decide +kernel)
set_option maxRecDepth 65536 in
theorem w_c18 : (Jvm.Cond.code ({ cls := "java/lang/AbstractStringBuilder", name := "putStringAt", desc := "(ILjava/lang/String;)V" } : Jvm.MethodName) jdk_68_method_73_code (3 : Nat) (Option.none : Option Jvm.ClassFile.FieldType)).before args0 about1 = true := code_word (m := ⟨12, 8⟩) (meth := k12m8) (c := k12c8) (by decide +kernel) rfl rfl rfl (by decide +kernel)
set_option maxRecDepth 65536 in
theorem w_c19 : (Jvm.Cond.code ({ cls := "java/lang/AbstractStringBuilder", name := "inflateIfNeededFor", desc := "(Ljava/lang/String;)V" } : Jvm.MethodName) jdk_68_method_71_code (2 : Nat) (Option.none : Option Jvm.ClassFile.FieldType)).before args0 about1 = true := code_word (m := ⟨12, 7⟩) (meth := k12m7) (c := k12c7) (by decide +kernel) rfl rfl rfl (by decide +kernel)
set_option maxRecDepth 65536 in
theorem w_c20 : (Jvm.Cond.code ({ cls := "java/lang/String", name := "getBytes", desc := "([BIB)V" } : Jvm.MethodName) jdk_42_method_147_code (4 : Nat) (Option.none : Option Jvm.ClassFile.FieldType)).before args0 about1 = true := code_word (m := ⟨7, 6⟩) (meth := k7m6) (c := k7c6) (by decide +kernel) rfl rfl rfl (by decide +kernel)
set_option maxRecDepth 65536 in
theorem w_c21 : (Jvm.Cond.code ({ cls := "java/lang/StringBuilder", name := "toString", desc := "()Ljava/lang/String;" } : Jvm.MethodName) jdk_67_method_42_code (1 : Nat) (Option.some (Jvm.ClassFile.FieldType.object "java/lang/String"))).before args0 about1 = true := code_word (m := ⟨13, 2⟩) (meth := k13m2) (c := k13c2) (by decide +kernel) rfl rfl rfl (by decide +kernel)
set_option maxRecDepth 65536 in
theorem w_c22 : (Jvm.Cond.code ({ cls := "java/lang/String", name := "<init>", desc := "(Ljava/lang/StringBuilder;)V" } : Jvm.MethodName) jdk_42_method_53_code (2 : Nat) (Option.none : Option Jvm.ClassFile.FieldType)).before args0 about1 = true := code_word (m := ⟨7, 2⟩) (meth := k7m2) (c := k7c2) (by decide +kernel) rfl rfl rfl (by decide +kernel)
set_option maxRecDepth 65536 in
theorem w_c23 : (Jvm.Cond.code ({ cls := "java/lang/String", name := "<init>", desc := "(Ljava/lang/AbstractStringBuilder;Ljava/lang/Void;)V" } : Jvm.MethodName) jdk_42_method_150_code (5 : Nat) (Option.none : Option Jvm.ClassFile.FieldType)).before args0 about1 = true := code_word (m := ⟨7, 8⟩) (meth := k7m8) (c := k7c8) (by decide +kernel) rfl rfl rfl (by decide +kernel)
set_option maxRecDepth 65536 in
theorem w_c24 : (Jvm.Cond.code ({ cls := "java/lang/AbstractStringBuilder", name := "getValue", desc := "()[B" } : Jvm.MethodName) jdk_68_method_64_code (1 : Nat) (Option.some (Jvm.ClassFile.FieldType.array Jvm.ClassFile.FieldType.byte))).before args0 about1 = true := code_word (m := ⟨12, 5⟩) (meth := k12m5) (c := k12c5) (by decide +kernel) rfl rfl rfl (by decide +kernel)
set_option maxRecDepth 65536 in
theorem w_c25 : (Jvm.Cond.code ({ cls := "java/lang/StringBuilder", name := "length", desc := "()I" } : Jvm.MethodName) jdk_67_method_93_code (1 : Nat) (Option.some Jvm.ClassFile.FieldType.int)).before args0 about1 = true := code_word (m := ⟨13, 3⟩) (meth := k13m3) (c := k13c3) (by decide +kernel) rfl rfl rfl (by decide +kernel)
set_option maxRecDepth 65536 in
theorem w_c26 : (Jvm.Cond.code ({ cls := "java/lang/AbstractStringBuilder", name := "length", desc := "()I" } : Jvm.MethodName) jdk_68_method_6_code (1 : Nat) (Option.some Jvm.ClassFile.FieldType.int)).before args0 about1 = true := code_word (m := ⟨12, 2⟩) (meth := k12m2) (c := k12c2) (by decide +kernel) rfl rfl rfl (by decide +kernel)
set_option maxRecDepth 65536 in
theorem w_c27 : (Jvm.Cond.code ({ cls := "java/lang/AbstractStringBuilder", name := "isLatin1", desc := "()Z" } : Jvm.MethodName) jdk_68_method_68_code (1 : Nat) (Option.some Jvm.ClassFile.FieldType.boolean)).before args0 about1 = true := code_word (m := ⟨12, 6⟩) (meth := k12m6) (c := k12c6) (by decide +kernel) rfl rfl rfl (by decide +kernel)
set_option maxRecDepth 65536 in
theorem w_c28 : (Jvm.Cond.code ({ cls := "java/util/Arrays", name := "copyOfRange", desc := "([BII)[B" } : Jvm.MethodName) jdk_65_method_132_code (3 : Nat) (Option.some (Jvm.ClassFile.FieldType.array Jvm.ClassFile.FieldType.byte))).before args0 about1 = true := code_word (m := ⟨15, 2⟩) (meth := k15m2) (c := k15c2) (by decide +kernel) rfl rfl rfl (by decide +kernel)
set_option maxRecDepth 65536 in
theorem w_c29 : (Jvm.Cond.code ({ cls := "java/util/Arrays", name := "copyOfRangeByte", desc := "([BII)[B" } : Jvm.MethodName) jdk_65_method_133_code (5 : Nat) (Option.some (Jvm.ClassFile.FieldType.array Jvm.ClassFile.FieldType.byte))).before args0 about1 = true := code_word (m := ⟨15, 3⟩) (meth := k15m3) (c := k15c3) (by decide +kernel) rfl rfl rfl (by decide +kernel)
set_option maxRecDepth 65536 in
theorem w_c30 : (Jvm.Cond.code ({ cls := "java/util/Arrays", name := "checkLength", desc := "(II)V" } : Jvm.MethodName) jdk_65_method_131_code (2 : Nat) (Option.none : Option Jvm.ClassFile.FieldType)).before args0 about1 = true := code_word (m := ⟨15, 1⟩) (meth := k15m1) (c := k15c1) (by decide +kernel) rfl rfl rfl (by decide +kernel)
set_option maxRecDepth 65536 in
theorem w_c31 : (Jvm.Cond.code ({ cls := "java/lang/Math", name := "min", desc := "(II)I" } : Jvm.MethodName) jdk_29_method_69_code (2 : Nat) (Option.some Jvm.ClassFile.FieldType.int)).before args0 about1 = true := code_word (m := ⟨16, 1⟩) (meth := k16m1) (c := k16c1) (by decide +kernel) rfl rfl rfl (by decide +kernel)
set_option maxRecDepth 65536 in
theorem w_c32 : (Jvm.Cond.code ({ cls := "java/lang/String", name := "equals", desc := "(Ljava/lang/Object;)Z" } : Jvm.MethodName) jdk_42_method_66_code (3 : Nat) (Option.some Jvm.ClassFile.FieldType.boolean)).before args0 about1 = true := code_word (m := ⟨7, 5⟩) (meth := k7m5) (c := k7c5) (by decide +kernel) rfl rfl rfl (by decide +kernel)
set_option maxRecDepth 65536 in
theorem w_c33 : (Jvm.Cond.code ({ cls := "java/lang/StringLatin1", name := "equals", desc := "([B[B)Z" } : Jvm.MethodName) jdk_43_method_13_code (3 : Nat) (Option.some Jvm.ClassFile.FieldType.boolean)).before args0 about1 = true := code_word (m := ⟨17, 1⟩) (meth := k17m1) (c := k17c1) (by decide +kernel) rfl rfl rfl (by decide +kernel)
set_option maxRecDepth 65536 in
theorem w_c34 : (Jvm.Cond.code ({ cls := "com/example/synlock/synlock/LockKeys", name := "equals", desc := "(Ljava/lang/Object;)Z" } : Jvm.MethodName) prog_4_method_5_code (3 : Nat) (Option.some Jvm.ClassFile.FieldType.boolean)).before args0 about1 = true := code_word (m := ⟨9, 2⟩) (meth := k9m2) (c := k9c2) (by decide +kernel) rfl rfl rfl (by decide +kernel)
set_option maxRecDepth 65536 in
theorem w_c35 : (Jvm.Cond.code ({ cls := "com/example/synlock/synlock/LockKeys", name := "key", desc := "()Ljava/lang/String;" } : Jvm.MethodName) prog_4_method_2_code (1 : Nat) (Option.some (Jvm.ClassFile.FieldType.object "java/lang/String"))).before args0 about1 = true := code_word (m := ⟨9, 1⟩) (meth := k9m1) (c := k9c1) (by decide +kernel) rfl rfl rfl (by decide +kernel)
def codes1 : List Jvm.Cond := [Jvm.Cond.code x code maxLocals ret, Jvm.Cond.code ({ cls := "com/example/synlock/synlock/LockKeysEqualsPinLaw", name := "make", desc := "(II)Ljava/lang/String;" } : Jvm.MethodName) method_3_code (6 : Nat) (Option.some (Jvm.ClassFile.FieldType.object "java/lang/String")), Jvm.Cond.code ({ cls := "java/lang/String", name := "<init>", desc := "([C)V" } : Jvm.MethodName) jdk_42_method_3_code (2 : Nat) (Option.none : Option Jvm.ClassFile.FieldType), Jvm.Cond.code ({ cls := "java/lang/String", name := "<init>", desc := "([CIILjava/lang/Void;)V" } : Jvm.MethodName) jdk_42_method_149_code (6 : Nat) (Option.none : Option Jvm.ClassFile.FieldType), Jvm.Cond.code ({ cls := "java/lang/Object", name := "<init>", desc := "()V" } : Jvm.MethodName) object_method_1_code (1 : Nat) (Option.none : Option Jvm.ClassFile.FieldType), Jvm.Cond.code ({ cls := "java/lang/StringUTF16", name := "compress", desc := "([CII)[B" } : Jvm.MethodName) jdk_52_method_16_code (6 : Nat) (Option.some (Jvm.ClassFile.FieldType.array Jvm.ClassFile.FieldType.byte)), Jvm.Cond.code ({ cls := "java/lang/StringUTF16", name := "compress", desc := "([CI[BII)I" } : Jvm.MethodName) jdk_52_method_21_code (7 : Nat) (Option.some Jvm.ClassFile.FieldType.int), Jvm.Cond.code ({ cls := "java/lang/StringUTF16", name := "coderFromArrayLen", desc := "([BI)B" } : Jvm.MethodName) jdk_52_method_15_code (2 : Nat) (Option.some Jvm.ClassFile.FieldType.byte), Jvm.Cond.code ({ cls := "com/example/synlock/synlock/LockKeys", name := "<init>", desc := "(Ljava/lang/String;)V" } : Jvm.MethodName) prog_4_method_1_code (2 : Nat) (Option.none : Option Jvm.ClassFile.FieldType), Jvm.Cond.code ({ cls := "java/util/Objects", name := "requireNonNull", desc := "(Ljava/lang/Object;Ljava/lang/String;)Ljava/lang/Object;" } : Jvm.MethodName) jdk_31_method_11_code (2 : Nat) (Option.some (Jvm.ClassFile.FieldType.object "java/lang/Object")), Jvm.Cond.code ({ cls := "java/lang/String", name := "isEmpty", desc := "()Z" } : Jvm.MethodName) jdk_42_method_55_code (1 : Nat) (Option.some Jvm.ClassFile.FieldType.boolean), Jvm.Cond.code ({ cls := "java/lang/StringBuilder", name := "<init>", desc := "()V" } : Jvm.MethodName) jdk_67_method_1_code (1 : Nat) (Option.none : Option Jvm.ClassFile.FieldType), Jvm.Cond.code ({ cls := "java/lang/AbstractStringBuilder", name := "<init>", desc := "(I)V" } : Jvm.MethodName) jdk_68_method_2_code (2 : Nat) (Option.none : Option Jvm.ClassFile.FieldType), Jvm.Cond.code ({ cls := "java/lang/StringBuilder", name := "append", desc := "(Ljava/lang/String;)Ljava/lang/StringBuilder;" } : Jvm.MethodName) jdk_67_method_7_code (2 : Nat) (Option.some (Jvm.ClassFile.FieldType.object "java/lang/StringBuilder")), Jvm.Cond.code ({ cls := "java/lang/AbstractStringBuilder", name := "append", desc := "(Ljava/lang/String;)Ljava/lang/AbstractStringBuilder;" } : Jvm.MethodName) jdk_68_method_22_code (3 : Nat) (Option.some (Jvm.ClassFile.FieldType.object "java/lang/AbstractStringBuilder")), Jvm.Cond.code ({ cls := "java/lang/String", name := "length", desc := "()I" } : Jvm.MethodName) jdk_42_method_54_code (1 : Nat) (Option.some Jvm.ClassFile.FieldType.int), Jvm.Cond.code ({ cls := "java/lang/String", name := "coder", desc := "()B" } : Jvm.MethodName) jdk_42_method_152_code (1 : Nat) (Option.some Jvm.ClassFile.FieldType.byte), Jvm.Cond.code ({ cls := "java/lang/AbstractStringBuilder", name := "ensureCapacityInternal", desc := "(I)V" } : Jvm.MethodName) jdk_68_method_9_code (3 : Nat) (Option.none : Option Jvm.ClassFile.FieldType), Jvm.Cond.code ({ cls := "java/lang/AbstractStringBuilder", name := "putStringAt", desc := "(ILjava/lang/String;)V" } : Jvm.MethodName) jdk_68_method_73_code (3 : Nat) (Option.none : Option Jvm.ClassFile.FieldType), Jvm.Cond.code ({ cls := "java/lang/AbstractStringBuilder", name := "inflateIfNeededFor", desc := "(Ljava/lang/String;)V" } : Jvm.MethodName) jdk_68_method_71_code (2 : Nat) (Option.none : Option Jvm.ClassFile.FieldType), Jvm.Cond.code ({ cls := "java/lang/String", name := "getBytes", desc := "([BIB)V" } : Jvm.MethodName) jdk_42_method_147_code (4 : Nat) (Option.none : Option Jvm.ClassFile.FieldType), Jvm.Cond.code ({ cls := "java/lang/StringBuilder", name := "toString", desc := "()Ljava/lang/String;" } : Jvm.MethodName) jdk_67_method_42_code (1 : Nat) (Option.some (Jvm.ClassFile.FieldType.object "java/lang/String")), Jvm.Cond.code ({ cls := "java/lang/String", name := "<init>", desc := "(Ljava/lang/StringBuilder;)V" } : Jvm.MethodName) jdk_42_method_53_code (2 : Nat) (Option.none : Option Jvm.ClassFile.FieldType), Jvm.Cond.code ({ cls := "java/lang/String", name := "<init>", desc := "(Ljava/lang/AbstractStringBuilder;Ljava/lang/Void;)V" } : Jvm.MethodName) jdk_42_method_150_code (5 : Nat) (Option.none : Option Jvm.ClassFile.FieldType), Jvm.Cond.code ({ cls := "java/lang/AbstractStringBuilder", name := "getValue", desc := "()[B" } : Jvm.MethodName) jdk_68_method_64_code (1 : Nat) (Option.some (Jvm.ClassFile.FieldType.array Jvm.ClassFile.FieldType.byte)), Jvm.Cond.code ({ cls := "java/lang/StringBuilder", name := "length", desc := "()I" } : Jvm.MethodName) jdk_67_method_93_code (1 : Nat) (Option.some Jvm.ClassFile.FieldType.int), Jvm.Cond.code ({ cls := "java/lang/AbstractStringBuilder", name := "length", desc := "()I" } : Jvm.MethodName) jdk_68_method_6_code (1 : Nat) (Option.some Jvm.ClassFile.FieldType.int), Jvm.Cond.code ({ cls := "java/lang/AbstractStringBuilder", name := "isLatin1", desc := "()Z" } : Jvm.MethodName) jdk_68_method_68_code (1 : Nat) (Option.some Jvm.ClassFile.FieldType.boolean), Jvm.Cond.code ({ cls := "java/util/Arrays", name := "copyOfRange", desc := "([BII)[B" } : Jvm.MethodName) jdk_65_method_132_code (3 : Nat) (Option.some (Jvm.ClassFile.FieldType.array Jvm.ClassFile.FieldType.byte)), Jvm.Cond.code ({ cls := "java/util/Arrays", name := "copyOfRangeByte", desc := "([BII)[B" } : Jvm.MethodName) jdk_65_method_133_code (5 : Nat) (Option.some (Jvm.ClassFile.FieldType.array Jvm.ClassFile.FieldType.byte)), Jvm.Cond.code ({ cls := "java/util/Arrays", name := "checkLength", desc := "(II)V" } : Jvm.MethodName) jdk_65_method_131_code (2 : Nat) (Option.none : Option Jvm.ClassFile.FieldType), Jvm.Cond.code ({ cls := "java/lang/Math", name := "min", desc := "(II)I" } : Jvm.MethodName) jdk_29_method_69_code (2 : Nat) (Option.some Jvm.ClassFile.FieldType.int), Jvm.Cond.code ({ cls := "java/lang/String", name := "equals", desc := "(Ljava/lang/Object;)Z" } : Jvm.MethodName) jdk_42_method_66_code (3 : Nat) (Option.some Jvm.ClassFile.FieldType.boolean), Jvm.Cond.code ({ cls := "java/lang/StringLatin1", name := "equals", desc := "([B[B)Z" } : Jvm.MethodName) jdk_43_method_13_code (3 : Nat) (Option.some Jvm.ClassFile.FieldType.boolean), Jvm.Cond.code ({ cls := "com/example/synlock/synlock/LockKeys", name := "equals", desc := "(Ljava/lang/Object;)Z" } : Jvm.MethodName) prog_4_method_5_code (3 : Nat) (Option.some Jvm.ClassFile.FieldType.boolean), Jvm.Cond.code ({ cls := "com/example/synlock/synlock/LockKeys", name := "key", desc := "()Ljava/lang/String;" } : Jvm.MethodName) prog_4_method_2_code (1 : Nat) (Option.some (Jvm.ClassFile.FieldType.object "java/lang/String"))]
set_option maxRecDepth 65536 in
theorem codes_eq : words1.filter isCode = codes1 := rfl
theorem w_codes : ∀ c ∈ words1.filter isCode, c.before args0 about1 = true := by
  rw [codes_eq]
  intro c hc
  simp only [codes1, List.mem_cons, List.not_mem_nil, or_false] at hc
  rcases hc with rfl | rfl | rfl | rfl | rfl | rfl | rfl | rfl | rfl | rfl | rfl | rfl | rfl | rfl | rfl | rfl | rfl | rfl | rfl | rfl | rfl | rfl | rfl | rfl | rfl | rfl | rfl | rfl | rfl | rfl | rfl | rfl | rfl | rfl | rfl | rfl
  · exact w_c0
  · exact w_c1
  · exact w_c2
  · exact w_c3
  · exact w_c4
  · exact w_c5
  · exact w_c6
  · exact w_c7
  · exact w_c8
  · exact w_c9
  · exact w_c10
  · exact w_c11
  · exact w_c12
  · exact w_c13
  · exact w_c14
  · exact w_c15
  · exact w_c16
  · exact w_c17
  · exact w_c18
  · exact w_c19
  · exact w_c20
  · exact w_c21
  · exact w_c22
  · exact w_c23
  · exact w_c24
  · exact w_c25
  · exact w_c26
  · exact w_c27
  · exact w_c28
  · exact w_c29
  · exact w_c30
  · exact w_c31
  · exact w_c32
  · exact w_c33
  · exact w_c34
  · exact w_c35
set_option maxRecDepth 65536 in
theorem w_t1 : (words1.take 24).all (fun c => isCode c || c.before args0 about1) = true := by decide +kernel
set_option maxRecDepth 65536 in
theorem w_t2 : ((words1.drop 24).take 24).all (fun c => isCode c || c.before args0 about1) = true := by decide +kernel
set_option maxRecDepth 65536 in
theorem w_t3 : (((words1.drop 24).drop 24).take 24).all (fun c => isCode c || c.before args0 about1) = true := by decide +kernel
set_option maxRecDepth 65536 in
theorem w_t4 : ((((words1.drop 24).drop 24).drop 24).take 24).all (fun c => isCode c || c.before args0 about1) = true := by decide +kernel
set_option maxRecDepth 65536 in
theorem w_t5 : (((((words1.drop 24).drop 24).drop 24).drop 24).take 24).all (fun c => isCode c || c.before args0 about1) = true := by decide +kernel
set_option maxRecDepth 65536 in
theorem w_t6 : ((((((words1.drop 24).drop 24).drop 24).drop 24).drop 24).take 24).all (fun c => isCode c || c.before args0 about1) = true := by decide +kernel
set_option maxRecDepth 65536 in
theorem w_t7 : (((((((words1.drop 24).drop 24).drop 24).drop 24).drop 24).drop 24).take 24).all (fun c => isCode c || c.before args0 about1) = true := by decide +kernel
set_option maxRecDepth 65536 in
theorem w_t8 : ((((((((words1.drop 24).drop 24).drop 24).drop 24).drop 24).drop 24).drop 24).take 24).all (fun c => isCode c || c.before args0 about1) = true := by decide +kernel
set_option maxRecDepth 65536 in
theorem w_t9 : ((((((((words1.drop 24).drop 24).drop 24).drop 24).drop 24).drop 24).drop 24).drop 24).all (fun c => isCode c || c.before args0 about1) = true := by decide +kernel
theorem w_tables : (allAtoms (Jvm.Cond.code x code maxLocals ret :: tables_1)).before args0 about1 = true := by
  rw [allAtoms_all]
  show words1.all (fun c => c.before args0 about1) = true
  refine all_split ?_ w_codes
  rw [← List.take_append_drop 24 words1, List.all_append, w_t1, ← List.take_append_drop 24 (words1.drop 24), List.all_append, w_t2, ← List.take_append_drop 24 ((words1.drop 24).drop 24), List.all_append, w_t3, ← List.take_append_drop 24 (((words1.drop 24).drop 24).drop 24), List.all_append, w_t4, ← List.take_append_drop 24 ((((words1.drop 24).drop 24).drop 24).drop 24), List.all_append, w_t5, ← List.take_append_drop 24 (((((words1.drop 24).drop 24).drop 24).drop 24).drop 24), List.all_append, w_t6, ← List.take_append_drop 24 ((((((words1.drop 24).drop 24).drop 24).drop 24).drop 24).drop 24), List.all_append, w_t7, ← List.take_append_drop 24 (((((((words1.drop 24).drop 24).drop 24).drop 24).drop 24).drop 24).drop 24), List.all_append, w_t8, w_t9]
  rfl
set_option maxRecDepth 65536 in
theorem w_rest : rest_1_c.before args0 about1 = true := by decide +kernel
set_option maxRecDepth 65536 in
theorem w_case : (Jvm.Cond.and given_1 narrow_1).before args0 about1 = true := by decide +kernel
set_option maxRecDepth 65536 in
theorem w_consts : constsHeld consts_1 about1 := Jvm.Lit.constsHeldB_iff.mp (by decide +kernel)
theorem w_applies : (headSpec (Jvm.Cond.code x code maxLocals ret :: tables_1) room_1).applies x e0.platform about1 = true :=
  (Spec.applies_iff w_frames).mpr ⟨w_running, w_runnable, w_alone, w_named, w_hears, w_ripe, w_room, w_tables⟩
theorem atStart : AtStart classFile x code maxLocals ret World_1 tables_1 room_1 Calls_1 rest_1 Pre_1 launch0 p0 e0 about1 theMethod args0 below0 :=
  ⟨lists_1, trivial, launch0.admits_env _ _ _, launch0.least_env, fairChoices_fair.cas, fairChoices_fair.clock, w_frames, w_args, w_heap, w_applies, ⟨w_consts, trivial⟩, w_rest, w_case⟩
end start1
theorem witness_1 : WitnessClaimed_1 := ⟨start1.p0, start1.e0, start1.about1, start1.theMethod, start1.args0, start1.below0, start1.atStart⟩
end Jvm.Pilot.@@N@@
