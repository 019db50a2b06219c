import JvmDerived
import JvmDerived.Pilot.@@N@@Statement
import JvmDerived.Pilot.@@N@@Code
set_option linter.unusedVariables false
set_option linter.unusedSimpArgs false
namespace Jvm.Pilot.@@N@@
open Jvm Jvm.ClassFile Sem Op Lib Jvm.Free Jvm.Stand Jvm.LawKit Jvm.RoadKit Bundle Jvm.Pilot.@@N@@.Jvm.D
section OwnKit
variable {Z : State} {EL : List (String × Nat)} {a0 : Array Value} {n0 : Nat} {h0 : Heap} {ws : List Addr} {own : String} {bytes : ByteArray} {mx : Nat} {p : Program} {l : Launch} {e : Env} {R : Room} {s : State} {m : MethodId} {args : Array Value} {below : List Frame} {meth : Method} {c : Code} {sv : List Addr} {T : State} {h : Heap} {k n : Nat} {P : Outcome → State → Prop} {pc : Nat} {Ls : Array Slot} {st : List Value}
def OGo (tb : Tables) (e : Env) (below : List Frame) (P : Outcome → State → Prop) (T : State) (g : JFrame) : Prop := ∃ (t : State) (o : Outcome), Steps tb e below (T.setTop g) t ∧ t.status = .running ∧ Ended t below o ∧ P o t
theorem og {tb : Tables} {T' : State} {g g' : JFrame} (st : ∀ t, Steps tb e below (T'.setTop g') t → Steps tb e below (T.setTop g) t) (K : OGo tb e below P T' g') : OGo tb e below P T g := by
  obtain ⟨t, o, h1, h2⟩ := K
  exact ⟨t, o, st t h1, h2⟩
def OEnd (Z : State) (EL : List (String × Nat)) (n0 : Nat) (h0 : Heap) (ws : List Addr) (s : State) (Q : Option Value → Heap → Prop) (k n : Nat) (o : Outcome) (t : State) : Prop :=
  ∃ v L, o = .returned v ∧ (Fr n0 L ∧ Keep h0 t.heap ws ∧ Q v t.heap) ∧ CHr Z EL s.vm s.heap t.vm t.heap ∧ ReturnedEndW s o t L k n ∧ (EL = [] → FrameEnd s o t L k n)
def OIn (Z : State) (EL : List (String × Nat)) (a0 : Array Value) (n0 : Nat) (h0 : Heap) (ws : List Addr) (own : String) (s : State) (m : MethodId) (sv : List Addr) (vm0 : Vm) (locs : List Loc) (h : Heap) : Prop :=
  s.heap = h0 ∧ Old Z n0 h ∧ Keep h0 h ws ∧ (∃ k0, s.Since vm0 k0 ∧ k0 ≤ h.size) ∧ Z.Warmed39 vm0 ∧ vm0.findClass own = some m.cls ∧ EW Z a0 EL ∧ CHr Z EL s.vm s.heap vm0 h ∧ (EL = [] → vm0 = s.vm) ∧ Fr n0 locs ∧ ∀ x ∈ sv, n0 ≤ x ∧ x < h.size ∧ (x ∈ ws ∨ h0.size ≤ x) ∧ Safe Z EL vm0 h x
def OSt (Z : State) (EL : List (String × Nat)) (a0 : Array Value) (n0 : Nat) (h0 : Heap) (ws : List Addr) (own : String) (bytes : ByteArray) (mx : Nat) (p : Program) (l : Launch) (e : Env) (R : Room) (s : State) (m : MethodId) (args : Array Value) (below : List Frame) (meth : Method) (c : Code) (sv : List Addr) (T : State) (h : Heap) (k n : Nat) : Prop :=
  p.tables.exec = Jvm.exec ∧ c.code = bytes ∧ c.maxLocals = mx ∧ T.heap = h ∧ meth.locks = false ∧ ∃ (vm0 : Vm) (locs : List Loc), Stand p l e R (s.setVm vm0) m args below meth c T locs k n ∧ OIn Z EL a0 n0 h0 ws own s m sv vm0 locs h
theorem OSt.here (X : OSt Z EL a0 n0 h0 ws own bytes mx p l e R s m args below meth c sv T h k n) : At T m c below := by obtain ⟨-, -, -, -, -, _, _, Y, -⟩ := X; exact Y.here
theorem OSt.hx (X : OSt Z EL a0 n0 h0 ws own bytes mx p l e R s m args below meth c sv T h k n) : p.tables.exec = Jvm.exec := X.1
theorem OSt.hd (X : OSt Z EL a0 n0 h0 ws own bytes mx p l e R s m args below meth c sv T h k n) {r : Except ClassFile.DecodeError (ClassFile.Instr × Nat)} (hd : decode bytes pc = r) : decode c.code pc = r := hb X.2.1 hd
theorem OSt.old (X : OSt Z EL a0 n0 h0 ws own bytes mx p l e R s m args below meth c sv T h k n) : Old Z n0 h := by obtain ⟨-, -, -, -, -, _, _, -, -, I, -⟩ := X; exact I
theorem OSt.kept (X : OSt Z EL a0 n0 h0 ws own bytes mx p l e R s m args below meth c sv T h k n) : Keep h0 h ws := by obtain ⟨-, -, -, -, -, _, _, -, -, -, I, -⟩ := X; exact I
theorem OSt.more (X : OSt Z EL a0 n0 h0 ws own bytes mx p l e R s m args below meth c sv T h k n) {k' n' : Nat} (hk : k ≤ k') (hn : n ≤ n') : OSt Z EL a0 n0 h0 ws own bytes mx p l e R s m args below meth c sv T h k' n' := by
  obtain ⟨a1, a2, a3, a4, a5, vm0, locs, Y, I⟩ := X
  exact ⟨a1, a2, a3, a4, a5, vm0, locs, Y.more hk hn, I⟩
theorem OSt.less (X : OSt Z EL a0 n0 h0 ws own bytes mx p l e R s m args below meth c sv T h k n) {sv' : List Addr} (q : ∀ x ∈ sv', x ∈ sv) : OSt Z EL a0 n0 h0 ws own bytes mx p l e R s m args below meth c sv' T h k n := by
  obtain ⟨a1, a2, a3, a4, a5, vm0, locs, Y, b1, b2, b3, b4, b5, b6, b7, b8, b9, b10, b11⟩ := X
  exact ⟨a1, a2, a3, a4, a5, vm0, locs, Y, b1, b2, b3, b4, b5, b6, b7, b8, b9, b10, fun x hx => b11 x (q x hx)⟩
theorem OIn.ext {vm0 : Vm} {locs : List Loc} {h' : Heap} (I : OIn Z EL a0 n0 h0 ws own s m sv vm0 locs h) (E : Ext h h') : OIn Z EL a0 n0 h0 ws own s m sv vm0 locs h' := by
  obtain ⟨b1, b2, b3, ⟨k0, b4, b4'⟩, b5, b6, b7, b8, b9, b10, b11⟩ := I
  exact ⟨b1, b2.ext E, b3.ext E, ⟨k0, b4, Nat.le_trans b4' E.1⟩, b5, b6, b7, b8.trans (CHr.ext E b8.1), b9, b10, fun x hx => let q := b11 x hx; ⟨q.1, Nat.lt_of_lt_of_le q.2.1 E.1, q.2.2.1, Safe.ext E b8.1 q.2.2.2⟩⟩
theorem OIn.new {vm0 : Vm} {locs : List Loc} {h' : Heap} (I : OIn Z EL a0 n0 h0 ws own s m sv vm0 locs h) (E : Ext h h') {b : Addr} (h1 : h.size ≤ b) (h2 : b < h'.size) : OIn Z EL a0 n0 h0 ws own s m (b :: sv) vm0 locs h' := by
  have I' := I.ext E
  obtain ⟨b1, b2, b3, -, -, -, -, b8, -⟩ := I
  obtain ⟨c1, c2, c3, c4, c5, c6, c7, c8, c9, c10, c11⟩ := I'
  refine ⟨c1, c2, c3, c4, c5, c6, c7, c8, c9, c10, fun x hx => ?_⟩
  rcases List.mem_cons.mp hx with rfl | hx
  · exact ⟨Nat.le_trans (Nat.le_of_eq b2.1.symm) (Nat.le_trans b2.2.1 h1), h2, Or.inr (Nat.le_trans b3.1 h1), Safe.ext E b8.1 (Safe.new h1)⟩
  · exact c11 x hx
theorem OIn.wr {vm0 : Vm} {locs : List Loc} {h' : Heap} (I : OIn Z EL a0 n0 h0 ws own s m sv vm0 locs h) {a : Addr} {sl : Nat} {v : Value} (ha : a ∈ sv) (W : Wr h h' a sl v) : OIn Z EL a0 n0 h0 ws own s m sv vm0 (locs ++ [⟨a, sl⟩]) h' := by
  obtain ⟨b1, b2, b3, ⟨k0, b4, b4'⟩, b5, b6, b7, b8, b9, b10, b11⟩ := I
  obtain ⟨q1, q2, q3, q4⟩ := b11 a ha
  refine ⟨b1, b2.wr W q1, b3.wr W q3, ⟨k0, b4, by rw [W.size]; exact b4'⟩, b5, b6, b7, b8.trans (CHr.wr W q4 b8.1), b9, b10.app fun y hy => ?_, fun x hx => let r := b11 x hx; ⟨r.1, by rw [W.size]; exact r.2.1, r.2.2.1, Safe.wr W q4 b8.1 r.2.2.2⟩⟩
  cases List.mem_singleton.mp hy; exact q1
theorem OIn.keep {vm0 : Vm} {locs : List Loc} {h' : Heap} (I : OIn Z EL a0 n0 h0 ws own s m sv vm0 locs h) {ws' : List Addr} {L : List Loc} (K : Keep h h' ws') (hs : ∀ x ∈ ws', x ∈ sv) (N : Fr n0 L) : OIn Z EL a0 n0 h0 ws own s m sv vm0 (locs ++ L) h' := by
  obtain ⟨b1, b2, b3, ⟨k0, b4, b4'⟩, b5, b6, b7, b8, b9, b10, b11⟩ := I
  have sf : ∀ x ∈ ws', Safe Z EL vm0 h x := fun x hx => (b11 x (hs x hx)).2.2.2
  exact ⟨b1, b2.keep K fun x hx => (b11 x (hs x hx)).1, b3.trans K fun x hx => (b11 x (hs x hx)).2.2.1, ⟨k0, b4, Nat.le_trans b4' K.1⟩, b5, b6, b7, b8.trans (CHr.keep K sf b8.1), b9, b10.app N, fun x hx => let r := b11 x hx; ⟨r.1, Nat.lt_of_lt_of_le r.2.1 K.1, r.2.2.1, Safe.keep K sf b8.1 r.2.2.2⟩⟩
theorem OIn.call {vm0 : Vm} {locs : List Loc} {h' : Heap} {vm1 : Vm} (I : OIn Z EL a0 n0 h0 ws own s m sv vm0 locs h) {ws' : List Addr} {L : List Loc} (K : Keep h h' ws') (hs : ∀ x ∈ ws', x ∈ sv) (N : Fr n0 L) (C : CHr Z EL vm0 h vm1 h') (S : (s.setVm vm0).Since vm1 h'.size) (hne : EL = [] → vm1 = vm0) : OIn Z EL a0 n0 h0 ws own s m sv vm1 (locs ++ L) h' := by
  obtain ⟨b1, b2, b3, ⟨k0, b4, b4'⟩, b5, b6, b7, b8, b9, b10, b11⟩ := I
  exact ⟨b1, b2.keep K fun x hx => (b11 x (hs x hx)).1, b3.trans K fun x hx => (b11 x (hs x hx)).2.2.1, ⟨_, b4.trans S (Nat.le_trans b4' K.1), Nat.le_refl _⟩, State.Warmed39.trans (t := s.setVm vm0) b5 S.1, by rw [S.1.alike.findClass]; exact b6, b7, b8.trans C, fun q => (hne q).trans (b9 q), b10.app N, fun x hx => let r := b11 x hx; ⟨r.1, Nat.lt_of_lt_of_le r.2.1 K.1, r.2.2.1, C.safe r.2.1 r.2.2.2⟩⟩
theorem og_aload (X : OSt Z EL a0 n0 h0 ws own bytes mx p l e R s m args below meth c sv T h k n) (pc' : Nat) {j : Nat} {v : Value} (hd : decode bytes pc = .ok (.aload j, 2)) (hl : Ls[j]? = some (.val (v))) (hv : v.isRef = true) (hq : pc' = pc + 2) (K : OGo p.tables e below P T (mkF m pc' Ls (v :: st))) : OGo p.tables e below P T (mkF m pc Ls st) := by
  subst hq
  exact og (fun _ q => XS.aload X.here X.hx rfl (X.hd hd) hl hv q) K
theorem og_aloadN (X : OSt Z EL a0 n0 h0 ws own bytes mx p l e R s m args below meth c sv T h k n) (pc' : Nat) {j : Fin 4} {v : Value} (hd : decode bytes pc = .ok (.aload_n j, 1)) (hl : Ls[j.val]? = some (.val (v))) (hv : v.isRef = true) (hq : pc' = pc + 1) (K : OGo p.tables e below P T (mkF m pc' Ls (v :: st))) : OGo p.tables e below P T (mkF m pc Ls st) := by
  subst hq
  exact og (fun _ q => XS.aloadN X.here X.hx rfl (X.hd hd) hl hv q) K
theorem og_iload (X : OSt Z EL a0 n0 h0 ws own bytes mx p l e R s m args below meth c sv T h k n) (pc' : Nat) {j : Nat} {v : Int32} (hd : decode bytes pc = .ok (.iload j, 2)) (hl : Ls[j]? = some (.val (.int v))) (hq : pc' = pc + 2) (K : OGo p.tables e below P T (mkF m pc' Ls (.int v :: st))) : OGo p.tables e below P T (mkF m pc Ls st) := by
  subst hq
  exact og (fun _ q => XS.iload X.here X.hx rfl (X.hd hd) hl q) K
theorem og_iloadN (X : OSt Z EL a0 n0 h0 ws own bytes mx p l e R s m args below meth c sv T h k n) (pc' : Nat) {j : Fin 4} {v : Int32} (hd : decode bytes pc = .ok (.iload_n j, 1)) (hl : Ls[j.val]? = some (.val (.int v))) (hq : pc' = pc + 1) (K : OGo p.tables e below P T (mkF m pc' Ls (.int v :: st))) : OGo p.tables e below P T (mkF m pc Ls st) := by
  subst hq
  exact og (fun _ q => XS.iloadN X.here X.hx rfl (X.hd hd) hl q) K
theorem og_lload (X : OSt Z EL a0 n0 h0 ws own bytes mx p l e R s m args below meth c sv T h k n) (pc' : Nat) {j : Nat} {v : Int64} (hd : decode bytes pc = .ok (.lload j, 2)) (hl : Ls[j]? = some (.val (.long v))) (hq : pc' = pc + 2) (K : OGo p.tables e below P T (mkF m pc' Ls (.long v :: st))) : OGo p.tables e below P T (mkF m pc Ls st) := by
  subst hq
  exact og (fun _ q => XT.lload X.here X.hx rfl (X.hd hd) hl q) K
theorem og_lloadN (X : OSt Z EL a0 n0 h0 ws own bytes mx p l e R s m args below meth c sv T h k n) (pc' : Nat) {j : Fin 4} {v : Int64} (hd : decode bytes pc = .ok (.lload_n j, 1)) (hl : Ls[j.val]? = some (.val (.long v))) (hq : pc' = pc + 1) (K : OGo p.tables e below P T (mkF m pc' Ls (.long v :: st))) : OGo p.tables e below P T (mkF m pc Ls st) := by
  subst hq
  exact og (fun _ q => XT.lloadN X.here X.hx rfl (X.hd hd) hl q) K
theorem og_iconst (X : OSt Z EL a0 n0 h0 ws own bytes mx p l e R s m args below meth c sv T h k n) (pc' : Nat) (v : Int32) {i : Int} (hd : decode bytes pc = .ok (.iconst i, 1)) (hv : Int32.ofInt i = v) (hq : pc' = pc + 1) (K : OGo p.tables e below P T (mkF m pc' Ls (.int v :: st))) : OGo p.tables e below P T (mkF m pc Ls st) := by
  subst hq hv
  exact og (fun _ q => XS.iconst X.here X.hx rfl (X.hd hd) q) K
theorem og_bipush (X : OSt Z EL a0 n0 h0 ws own bytes mx p l e R s m args below meth c sv T h k n) (pc' : Nat) (v : Int32) {i : Int} (hd : decode bytes pc = .ok (.bipush i, 2)) (hv : (Int8.ofInt i).toInt32 = v) (hq : pc' = pc + 2) (K : OGo p.tables e below P T (mkF m pc' Ls (.int v :: st))) : OGo p.tables e below P T (mkF m pc Ls st) := by
  subst hq hv
  exact og (fun _ q => XS.bipush X.here X.hx rfl (X.hd hd) q) K
theorem og_sipush (X : OSt Z EL a0 n0 h0 ws own bytes mx p l e R s m args below meth c sv T h k n) (pc' : Nat) (v : Int32) {i : Int} (hd : decode bytes pc = .ok (.sipush i, 3)) (hv : (Int16.ofInt i).toInt32 = v) (hq : pc' = pc + 3) (K : OGo p.tables e below P T (mkF m pc' Ls (.int v :: st))) : OGo p.tables e below P T (mkF m pc Ls st) := by
  subst hq hv
  exact og (fun _ q => XS.sipush X.here X.hx rfl (X.hd hd) q) K
theorem og_lconst (X : OSt Z EL a0 n0 h0 ws own bytes mx p l e R s m args below meth c sv T h k n) (pc' : Nat) (v : Int64) {i : Fin 2} (hd : decode bytes pc = .ok (.lconst i, 1)) (hv : Int64.ofNat i = v) (hq : pc' = pc + 1) (K : OGo p.tables e below P T (mkF m pc' Ls (.long v :: st))) : OGo p.tables e below P T (mkF m pc Ls st) := by
  subst hq hv
  exact og (fun _ q => XT.lconst X.here X.hx rfl (X.hd hd) q) K
theorem og_aconstNull (X : OSt Z EL a0 n0 h0 ws own bytes mx p l e R s m args below meth c sv T h k n) (pc' : Nat)  (hd : decode bytes pc = .ok (.aconst_null, 1))  (hq : pc' = pc + 1) (K : OGo p.tables e below P T (mkF m pc' Ls (.null :: st))) : OGo p.tables e below P T (mkF m pc Ls st) := by
  subst hq
  exact og (fun _ q => XS.aconstNull X.here X.hx rfl (X.hd hd) q) K
theorem og_iadd (X : OSt Z EL a0 n0 h0 ws own bytes mx p l e R s m args below meth c sv T h k n) (pc' : Nat) {x y : Int32} (hd : decode bytes pc = .ok (.iadd, 1))  (hq : pc' = pc + 1) (K : OGo p.tables e below P T (mkF m pc' Ls (.int (x + y) :: st))) : OGo p.tables e below P T (mkF m pc Ls (.int y :: .int x :: st)) := by
  subst hq
  exact og (fun _ q => XS.iadd X.here X.hx rfl (X.hd hd) rfl q) K
theorem og_isub (X : OSt Z EL a0 n0 h0 ws own bytes mx p l e R s m args below meth c sv T h k n) (pc' : Nat) {x y : Int32} (hd : decode bytes pc = .ok (.isub, 1))  (hq : pc' = pc + 1) (K : OGo p.tables e below P T (mkF m pc' Ls (.int (x - y) :: st))) : OGo p.tables e below P T (mkF m pc Ls (.int y :: .int x :: st)) := by
  subst hq
  exact og (fun _ q => XS.isub X.here X.hx rfl (X.hd hd) rfl q) K
theorem og_iand (X : OSt Z EL a0 n0 h0 ws own bytes mx p l e R s m args below meth c sv T h k n) (pc' : Nat) {x y : Int32} (hd : decode bytes pc = .ok (.iand, 1))  (hq : pc' = pc + 1) (K : OGo p.tables e below P T (mkF m pc' Ls (.int (x &&& y) :: st))) : OGo p.tables e below P T (mkF m pc Ls (.int y :: .int x :: st)) := by
  subst hq
  exact og (fun _ q => XS.iand X.here X.hx rfl (X.hd hd) rfl q) K
theorem og_imul (X : OSt Z EL a0 n0 h0 ws own bytes mx p l e R s m args below meth c sv T h k n) (pc' : Nat) {x y : Int32} (hd : decode bytes pc = .ok (.imul, 1))  (hq : pc' = pc + 1) (K : OGo p.tables e below P T (mkF m pc' Ls (.int (x * y) :: st))) : OGo p.tables e below P T (mkF m pc Ls (.int y :: .int x :: st)) := by
  subst hq
  exact og (fun _ q => XS.imul X.here X.hx rfl (X.hd hd) rfl q) K
theorem og_ixor (X : OSt Z EL a0 n0 h0 ws own bytes mx p l e R s m args below meth c sv T h k n) (pc' : Nat) {x y : Int32} (hd : decode bytes pc = .ok (.ixor, 1))  (hq : pc' = pc + 1) (K : OGo p.tables e below P T (mkF m pc' Ls (.int (x ^^^ y) :: st))) : OGo p.tables e below P T (mkF m pc Ls (.int y :: .int x :: st)) := by
  subst hq
  exact og (fun _ q => XT.ixor X.here X.hx rfl (X.hd hd) rfl q) K
theorem og_ior (X : OSt Z EL a0 n0 h0 ws own bytes mx p l e R s m args below meth c sv T h k n) (pc' : Nat) {x y : Int32} (hd : decode bytes pc = .ok (.ior, 1))  (hq : pc' = pc + 1) (K : OGo p.tables e below P T (mkF m pc' Ls (.int (x ||| y) :: st))) : OGo p.tables e below P T (mkF m pc Ls (.int y :: .int x :: st)) := by
  subst hq
  exact og (fun _ q => XT.ior X.here X.hx rfl (X.hd hd) rfl q) K
theorem og_ishl (X : OSt Z EL a0 n0 h0 ws own bytes mx p l e R s m args below meth c sv T h k n) (pc' : Nat) {x y : Int32} (hd : decode bytes pc = .ok (.ishl, 1))  (hq : pc' = pc + 1) (K : OGo p.tables e below P T (mkF m pc' Ls (.int (x <<< (y &&& 31)) :: st))) : OGo p.tables e below P T (mkF m pc Ls (.int y :: .int x :: st)) := by
  subst hq
  exact og (fun _ q => XT.ishl X.here X.hx rfl (X.hd hd) rfl q) K
theorem og_ishr (X : OSt Z EL a0 n0 h0 ws own bytes mx p l e R s m args below meth c sv T h k n) (pc' : Nat) {x y : Int32} (hd : decode bytes pc = .ok (.ishr, 1))  (hq : pc' = pc + 1) (K : OGo p.tables e below P T (mkF m pc' Ls (.int (x >>> (y &&& 31)) :: st))) : OGo p.tables e below P T (mkF m pc Ls (.int y :: .int x :: st)) := by
  subst hq
  exact og (fun _ q => XT.ishr X.here X.hx rfl (X.hd hd) rfl q) K
theorem og_iushr (X : OSt Z EL a0 n0 h0 ws own bytes mx p l e R s m args below meth c sv T h k n) (pc' : Nat) {x y : Int32} (hd : decode bytes pc = .ok (.iushr, 1))  (hq : pc' = pc + 1) (K : OGo p.tables e below P T (mkF m pc' Ls (.int (Jvm.Free.XT.ushr x y) :: st))) : OGo p.tables e below P T (mkF m pc Ls (.int y :: .int x :: st)) := by
  subst hq
  exact og (fun _ q => XT.iushr X.here X.hx rfl (X.hd hd) rfl q) K
theorem og_idiv (X : OSt Z EL a0 n0 h0 ws own bytes mx p l e R s m args below meth c sv T h k n) (pc' : Nat) {x y : Int32} (hd : decode bytes pc = .ok (.idiv, 1)) (hy : y ≠ 0) (hq : pc' = pc + 1) (K : OGo p.tables e below P T (mkF m pc' Ls (.int (x / y) :: st))) : OGo p.tables e below P T (mkF m pc Ls (.int y :: .int x :: st)) := by
  subst hq
  exact og (fun _ q => XS.idiv X.here X.hx rfl (X.hd hd) rfl hy q) K
theorem og_irem (X : OSt Z EL a0 n0 h0 ws own bytes mx p l e R s m args below meth c sv T h k n) (pc' : Nat) {x y : Int32} (hd : decode bytes pc = .ok (.irem, 1)) (hy : y ≠ 0) (hq : pc' = pc + 1) (K : OGo p.tables e below P T (mkF m pc' Ls (.int (x % y) :: st))) : OGo p.tables e below P T (mkF m pc Ls (.int y :: .int x :: st)) := by
  subst hq
  have q0 : x - x / y * y = x % y := irem_eq_mod x y
  exact og (fun _ q => XS.irem X.here X.hx rfl (X.hd hd) rfl hy (by rw [q0]; exact q)) K
theorem og_ineg (X : OSt Z EL a0 n0 h0 ws own bytes mx p l e R s m args below meth c sv T h k n) (pc' : Nat) {x : Int32} (hd : decode bytes pc = .ok (.ineg, 1))  (hq : pc' = pc + 1) (K : OGo p.tables e below P T (mkF m pc' Ls (.int (-x) :: st))) : OGo p.tables e below P T (mkF m pc Ls (.int x :: st)) := by
  subst hq
  exact og (fun _ q => XS.ineg X.here X.hx rfl (X.hd hd) rfl q) K
theorem og_ladd (X : OSt Z EL a0 n0 h0 ws own bytes mx p l e R s m args below meth c sv T h k n) (pc' : Nat) {x y : Int64} (hd : decode bytes pc = .ok (.ladd, 1))  (hq : pc' = pc + 1) (K : OGo p.tables e below P T (mkF m pc' Ls (.long (x + y) :: st))) : OGo p.tables e below P T (mkF m pc Ls (.long y :: .long x :: st)) := by
  subst hq
  exact og (fun _ q => XT.ladd X.here X.hx rfl (X.hd hd) rfl q) K
theorem og_lsub (X : OSt Z EL a0 n0 h0 ws own bytes mx p l e R s m args below meth c sv T h k n) (pc' : Nat) {x y : Int64} (hd : decode bytes pc = .ok (.lsub, 1))  (hq : pc' = pc + 1) (K : OGo p.tables e below P T (mkF m pc' Ls (.long (x - y) :: st))) : OGo p.tables e below P T (mkF m pc Ls (.long y :: .long x :: st)) := by
  subst hq
  exact og (fun _ q => XT.lsub X.here X.hx rfl (X.hd hd) rfl q) K
theorem og_lmul (X : OSt Z EL a0 n0 h0 ws own bytes mx p l e R s m args below meth c sv T h k n) (pc' : Nat) {x y : Int64} (hd : decode bytes pc = .ok (.lmul, 1))  (hq : pc' = pc + 1) (K : OGo p.tables e below P T (mkF m pc' Ls (.long (x * y) :: st))) : OGo p.tables e below P T (mkF m pc Ls (.long y :: .long x :: st)) := by
  subst hq
  exact og (fun _ q => XT.lmul X.here X.hx rfl (X.hd hd) rfl q) K
theorem og_land (X : OSt Z EL a0 n0 h0 ws own bytes mx p l e R s m args below meth c sv T h k n) (pc' : Nat) {x y : Int64} (hd : decode bytes pc = .ok (.land, 1))  (hq : pc' = pc + 1) (K : OGo p.tables e below P T (mkF m pc' Ls (.long (x &&& y) :: st))) : OGo p.tables e below P T (mkF m pc Ls (.long y :: .long x :: st)) := by
  subst hq
  exact og (fun _ q => XT.land X.here X.hx rfl (X.hd hd) rfl q) K
theorem og_lor (X : OSt Z EL a0 n0 h0 ws own bytes mx p l e R s m args below meth c sv T h k n) (pc' : Nat) {x y : Int64} (hd : decode bytes pc = .ok (.lor, 1))  (hq : pc' = pc + 1) (K : OGo p.tables e below P T (mkF m pc' Ls (.long (x ||| y) :: st))) : OGo p.tables e below P T (mkF m pc Ls (.long y :: .long x :: st)) := by
  subst hq
  exact og (fun _ q => XT.lor X.here X.hx rfl (X.hd hd) rfl q) K
theorem og_lxor (X : OSt Z EL a0 n0 h0 ws own bytes mx p l e R s m args below meth c sv T h k n) (pc' : Nat) {x y : Int64} (hd : decode bytes pc = .ok (.lxor, 1))  (hq : pc' = pc + 1) (K : OGo p.tables e below P T (mkF m pc' Ls (.long (x ^^^ y) :: st))) : OGo p.tables e below P T (mkF m pc Ls (.long y :: .long x :: st)) := by
  subst hq
  exact og (fun _ q => XT.lxor X.here X.hx rfl (X.hd hd) rfl q) K
theorem og_lcmp (X : OSt Z EL a0 n0 h0 ws own bytes mx p l e R s m args below meth c sv T h k n) (pc' : Nat) {x y : Int64} (hd : decode bytes pc = .ok (.lcmp, 1))  (hq : pc' = pc + 1) (K : OGo p.tables e below P T (mkF m pc' Ls (.int (Jvm.Free.XT.cmpL x y) :: st))) : OGo p.tables e below P T (mkF m pc Ls (.long y :: .long x :: st)) := by
  subst hq
  exact og (fun _ q => XT.lcmp X.here X.hx rfl (X.hd hd) rfl q) K
theorem og_i2l (X : OSt Z EL a0 n0 h0 ws own bytes mx p l e R s m args below meth c sv T h k n) (pc' : Nat) {x : Int32} (hd : decode bytes pc = .ok (.i2l, 1))  (hq : pc' = pc + 1) (K : OGo p.tables e below P T (mkF m pc' Ls (.long x.toInt64 :: st))) : OGo p.tables e below P T (mkF m pc Ls (.int x :: st)) := by
  subst hq
  exact og (fun _ q => XT.i2l X.here X.hx rfl (X.hd hd) rfl q) K
theorem og_i2b (X : OSt Z EL a0 n0 h0 ws own bytes mx p l e R s m args below meth c sv T h k n) (pc' : Nat) {x : Int32} (hd : decode bytes pc = .ok (.i2b, 1))  (hq : pc' = pc + 1) (K : OGo p.tables e below P T (mkF m pc' Ls (.int x.toInt8.toInt32 :: st))) : OGo p.tables e below P T (mkF m pc Ls (.int x :: st)) := by
  subst hq
  exact og (fun _ q => XT.i2b X.here X.hx rfl (X.hd hd) rfl q) K
theorem og_i2c (X : OSt Z EL a0 n0 h0 ws own bytes mx p l e R s m args below meth c sv T h k n) (pc' : Nat) {x : Int32} (hd : decode bytes pc = .ok (.i2c, 1))  (hq : pc' = pc + 1) (K : OGo p.tables e below P T (mkF m pc' Ls (.int x.toUInt32.toUInt16.toUInt32.toInt32 :: st))) : OGo p.tables e below P T (mkF m pc Ls (.int x :: st)) := by
  subst hq
  exact og (fun _ q => XT.i2c X.here X.hx rfl (X.hd hd) rfl q) K
theorem og_i2s (X : OSt Z EL a0 n0 h0 ws own bytes mx p l e R s m args below meth c sv T h k n) (pc' : Nat) {x : Int32} (hd : decode bytes pc = .ok (.i2s, 1))  (hq : pc' = pc + 1) (K : OGo p.tables e below P T (mkF m pc' Ls (.int x.toInt16.toInt32 :: st))) : OGo p.tables e below P T (mkF m pc Ls (.int x :: st)) := by
  subst hq
  exact og (fun _ q => XT.i2s X.here X.hx rfl (X.hd hd) rfl q) K
theorem og_l2i (X : OSt Z EL a0 n0 h0 ws own bytes mx p l e R s m args below meth c sv T h k n) (pc' : Nat) {x : Int64} (hd : decode bytes pc = .ok (.l2i, 1))  (hq : pc' = pc + 1) (K : OGo p.tables e below P T (mkF m pc' Ls (.int x.toInt32 :: st))) : OGo p.tables e below P T (mkF m pc Ls (.long x :: st)) := by
  subst hq
  exact og (fun _ q => XT.l2i X.here X.hx rfl (X.hd hd) rfl q) K
theorem og_i2c8 (X : OSt Z EL a0 n0 h0 ws own bytes mx p l e R s m args below meth c sv T h k n) (pc' : Nat) {x : Int32} (hd : decode bytes pc = .ok (.i2c, 1)) (hq : pc' = pc + 1) (K : OGo p.tables e below P T (mkF m pc' Ls (.int (x &&& 255) :: st))) : OGo p.tables e below P T (mkF m pc Ls (.int (x &&& 255) :: st)) := by
  subst hq
  exact og (fun _ q => XT.i2c X.here X.hx rfl (X.hd hd) rfl (by rw [i2c_mask]; exact q)) K
theorem og_dup (X : OSt Z EL a0 n0 h0 ws own bytes mx p l e R s m args below meth c sv T h k n) (pc' : Nat) {x : Value} (hd : decode bytes pc = .ok (.dup, 1)) (hc : x.category = 1) (hq : pc' = pc + 1) (K : OGo p.tables e below P T (mkF m pc' Ls (x :: x :: st))) : OGo p.tables e below P T (mkF m pc Ls (x :: st)) := by
  subst hq
  exact og (fun _ q => XS.dup X.here X.hx rfl (X.hd hd) rfl hc q) K
theorem og_pop (X : OSt Z EL a0 n0 h0 ws own bytes mx p l e R s m args below meth c sv T h k n) (pc' : Nat) {x : Value} (hd : decode bytes pc = .ok (.pop, 1)) (hc : x.category = 1) (hq : pc' = pc + 1) (K : OGo p.tables e below P T (mkF m pc' Ls st)) : OGo p.tables e below P T (mkF m pc Ls (x :: st)) := by
  subst hq
  exact og (fun _ q => XT.pop X.here X.hx rfl (X.hd hd) rfl hc q) K
theorem og_dupX1 (X : OSt Z EL a0 n0 h0 ws own bytes mx p l e R s m args below meth c sv T h k n) (pc' : Nat) {x y : Value} (hd : decode bytes pc = .ok (.dup_x1, 1)) (hc : x.category = 1) (hc' : y.category = 1) (hq : pc' = pc + 1) (K : OGo p.tables e below P T (mkF m pc' Ls (x :: y :: x :: st))) : OGo p.tables e below P T (mkF m pc Ls (x :: y :: st)) := by
  subst hq
  exact og (fun _ q => XT.dupX1 X.here X.hx rfl (X.hd hd) rfl hc hc' q) K
theorem og_dup2 (X : OSt Z EL a0 n0 h0 ws own bytes mx p l e R s m args below meth c sv T h k n) (pc' : Nat) {x y : Value} (hd : decode bytes pc = .ok (.dup2, 1)) (hc : x.category = 1) (hc' : y.category = 1) (hq : pc' = pc + 1) (K : OGo p.tables e below P T (mkF m pc' Ls (x :: y :: x :: y :: st))) : OGo p.tables e below P T (mkF m pc Ls (x :: y :: st)) := by
  subst hq
  exact og (fun _ q => XT.dup2 X.here X.hx rfl (X.hd hd) rfl hc hc' q) K
theorem og_istore (X : OSt Z EL a0 n0 h0 ws own bytes mx p l e R s m args below meth c sv T h k n) (pc' : Nat) (l' : Array Slot) {j : Nat} {x : Int32} (hd : decode bytes pc = .ok (.istore j, 2)) (hl : storeLocals Ls j (.int x) = some l') (hq : pc' = pc + 2) (K : OGo p.tables e below P T (mkF m pc' l' st)) : OGo p.tables e below P T (mkF m pc Ls (.int x :: st)) := by
  subst hq
  exact og (fun _ q => XS.istore X.here X.hx rfl (X.hd hd) rfl hl q) K
theorem og_istoreN (X : OSt Z EL a0 n0 h0 ws own bytes mx p l e R s m args below meth c sv T h k n) (pc' : Nat) (l' : Array Slot) {j : Fin 4} {x : Int32} (hd : decode bytes pc = .ok (.istore_n j, 1)) (hl : storeLocals Ls j.val (.int x) = some l') (hq : pc' = pc + 1) (K : OGo p.tables e below P T (mkF m pc' l' st)) : OGo p.tables e below P T (mkF m pc Ls (.int x :: st)) := by
  subst hq
  exact og (fun _ q => XS.istoreN X.here X.hx rfl (X.hd hd) rfl hl q) K
theorem og_lstore (X : OSt Z EL a0 n0 h0 ws own bytes mx p l e R s m args below meth c sv T h k n) (pc' : Nat) (l' : Array Slot) {j : Nat} {x : Int64} (hd : decode bytes pc = .ok (.lstore j, 2)) (hl : storeLocals Ls j (.long x) = some l') (hq : pc' = pc + 2) (K : OGo p.tables e below P T (mkF m pc' l' st)) : OGo p.tables e below P T (mkF m pc Ls (.long x :: st)) := by
  subst hq
  exact og (fun _ q => XT.lstore X.here X.hx rfl (X.hd hd) rfl hl q) K
theorem og_lstoreN (X : OSt Z EL a0 n0 h0 ws own bytes mx p l e R s m args below meth c sv T h k n) (pc' : Nat) (l' : Array Slot) {j : Fin 4} {x : Int64} (hd : decode bytes pc = .ok (.lstore_n j, 1)) (hl : storeLocals Ls j.val (.long x) = some l') (hq : pc' = pc + 1) (K : OGo p.tables e below P T (mkF m pc' l' st)) : OGo p.tables e below P T (mkF m pc Ls (.long x :: st)) := by
  subst hq
  exact og (fun _ q => XT.lstoreN X.here X.hx rfl (X.hd hd) rfl hl q) K
theorem og_astore (X : OSt Z EL a0 n0 h0 ws own bytes mx p l e R s m args below meth c sv T h k n) (pc' : Nat) (l' : Array Slot) {j : Nat} {x : Value} (hd : decode bytes pc = .ok (.astore j, 2)) (hv : x.isRef = true) (hl : storeLocals Ls j x = some l') (hq : pc' = pc + 2) (K : OGo p.tables e below P T (mkF m pc' l' st)) : OGo p.tables e below P T (mkF m pc Ls (x :: st)) := by
  subst hq
  exact og (fun _ q => XS.astore X.here X.hx rfl (X.hd hd) rfl hv hl q) K
theorem og_astoreN (X : OSt Z EL a0 n0 h0 ws own bytes mx p l e R s m args below meth c sv T h k n) (pc' : Nat) (l' : Array Slot) {j : Fin 4} {x : Value} (hd : decode bytes pc = .ok (.astore_n j, 1)) (hv : x.isRef = true) (hl : storeLocals Ls j.val x = some l') (hq : pc' = pc + 1) (K : OGo p.tables e below P T (mkF m pc' l' st)) : OGo p.tables e below P T (mkF m pc Ls (x :: st)) := by
  subst hq
  exact og (fun _ q => XS.astoreN X.here X.hx rfl (X.hd hd) rfl hv hl q) K
theorem og_iinc (X : OSt Z EL a0 n0 h0 ws own bytes mx p l e R s m args below meth c sv T h k n) (pc' : Nat) (l' : Array Slot) {j : Nat} {i : Int} {x : Int32} (hd : decode bytes pc = .ok (.iinc j i, 3)) (hl : Ls[j]? = some (.val (.int x))) (hl' : storeLocals Ls j (.int (x + Int32.ofInt i)) = some l') (hq : pc' = pc + 3) (K : OGo p.tables e below P T (mkF m pc' l' st)) : OGo p.tables e below P T (mkF m pc Ls st) := by
  subst hq
  exact og (fun _ q => XS.iinc X.here X.hx rfl (X.hd hd) hl hl' q) K
theorem og_goto (X : OSt Z EL a0 n0 h0 ws own bytes mx p l e R s m args below meth c sv T h k n) (pc' : Nat)  {o : Int} (hd : decode bytes pc = .ok (.goto o, 3))  (ho : 0 ≤ (pc : Int) + o) (hp : ((pc : Int) + o).toNat = pc') (K : OGo p.tables e below P T (mkF m pc' Ls st)) : OGo p.tables e below P T (mkF m pc Ls st) := og (fun _ q => XS.goto X.here X.hx rfl rfl (X.hd hd) ho hp q) K
theorem og_ifY (X : OSt Z EL a0 n0 h0 ws own bytes mx p l e R s m args below meth c sv T h k n) (pc' : Nat) {cd : ClassFile.Cond} {x : Int32} {o : Int} (hd : decode bytes pc = .ok (.ifCond cd o, 3)) (hc : ifCond.holds cd x = true) (ho : 0 ≤ (pc : Int) + o) (hp : ((pc : Int) + o).toNat = pc') (K : OGo p.tables e below P T (mkF m pc' Ls st)) : OGo p.tables e below P T (mkF m pc Ls (.int x :: st)) := og (fun _ q => XS.ifYes X.here X.hx rfl rfl (X.hd hd) rfl hc ho hp q) K
theorem og_icmpY (X : OSt Z EL a0 n0 h0 ws own bytes mx p l e R s m args below meth c sv T h k n) (pc' : Nat) {cd : ClassFile.Cond} {x y : Int32} {o : Int} (hd : decode bytes pc = .ok (.if_icmp cd o, 3)) (hc : if_icmp.holds cd x y = true) (ho : 0 ≤ (pc : Int) + o) (hp : ((pc : Int) + o).toNat = pc') (K : OGo p.tables e below P T (mkF m pc' Ls st)) : OGo p.tables e below P T (mkF m pc Ls (.int y :: .int x :: st)) := og (fun _ q => XS.icmpYes X.here X.hx rfl rfl (X.hd hd) rfl hc ho hp q) K
theorem og_nullY (X : OSt Z EL a0 n0 h0 ws own bytes mx p l e R s m args below meth c sv T h k n) (pc' : Nat)  {o : Int} (hd : decode bytes pc = .ok (.ifnull o, 3))  (ho : 0 ≤ (pc : Int) + o) (hp : ((pc : Int) + o).toNat = pc') (K : OGo p.tables e below P T (mkF m pc' Ls st)) : OGo p.tables e below P T (mkF m pc Ls (.null :: st)) := og (fun _ q => XS.ifnullYes X.here X.hx rfl rfl (X.hd hd) rfl ho hp q) K
theorem og_nonnullY (X : OSt Z EL a0 n0 h0 ws own bytes mx p l e R s m args below meth c sv T h k n) (pc' : Nat) {b : Addr} {o : Int} (hd : decode bytes pc = .ok (.ifnonnull o, 3))  (ho : 0 ≤ (pc : Int) + o) (hp : ((pc : Int) + o).toNat = pc') (K : OGo p.tables e below P T (mkF m pc' Ls st)) : OGo p.tables e below P T (mkF m pc Ls (.ref b :: st)) := og (fun _ q => XT.ifnonnullYes X.here X.hx rfl rfl (X.hd hd) rfl ho hp q) K
theorem og_acmpY (X : OSt Z EL a0 n0 h0 ws own bytes mx p l e R s m args below meth c sv T h k n) (pc' : Nat) {cd : ClassFile.ACond} {x y : Value} {o : Int} (hd : decode bytes pc = .ok (.if_acmp cd o, 3)) (hx' : x.isRef = true) (hy' : y.isRef = true) (hc : Jvm.Free.XT.acmp cd x y = true) (ho : 0 ≤ (pc : Int) + o) (hp : ((pc : Int) + o).toNat = pc') (K : OGo p.tables e below P T (mkF m pc' Ls st)) : OGo p.tables e below P T (mkF m pc Ls (y :: x :: st)) := og (fun _ q => XT.acmpYes X.here X.hx rfl rfl (X.hd hd) rfl hx' hy' hc ho hp q) K
theorem og_ifN (X : OSt Z EL a0 n0 h0 ws own bytes mx p l e R s m args below meth c sv T h k n) (pc' : Nat) {cd : ClassFile.Cond} {o : Int} {x : Int32} (hd : decode bytes pc = .ok (.ifCond cd o, 3)) (hc : ifCond.holds cd x = false) (hq : pc' = pc + 3) (K : OGo p.tables e below P T (mkF m pc' Ls st)) : OGo p.tables e below P T (mkF m pc Ls (.int x :: st)) := by
  subst hq
  exact og (fun _ q => XS.ifNo X.here X.hx rfl (X.hd hd) rfl hc q) K
theorem og_icmpN (X : OSt Z EL a0 n0 h0 ws own bytes mx p l e R s m args below meth c sv T h k n) (pc' : Nat) {cd : ClassFile.Cond} {o : Int} {x y : Int32} (hd : decode bytes pc = .ok (.if_icmp cd o, 3)) (hc : if_icmp.holds cd x y = false) (hq : pc' = pc + 3) (K : OGo p.tables e below P T (mkF m pc' Ls st)) : OGo p.tables e below P T (mkF m pc Ls (.int y :: .int x :: st)) := by
  subst hq
  exact og (fun _ q => XS.icmpNo X.here X.hx rfl (X.hd hd) rfl hc q) K
theorem og_nullN (X : OSt Z EL a0 n0 h0 ws own bytes mx p l e R s m args below meth c sv T h k n) (pc' : Nat) {o : Int} {b : Addr} (hd : decode bytes pc = .ok (.ifnull o, 3))  (hq : pc' = pc + 3) (K : OGo p.tables e below P T (mkF m pc' Ls st)) : OGo p.tables e below P T (mkF m pc Ls (.ref b :: st)) := by
  subst hq
  exact og (fun _ q => XS.ifnullNo X.here X.hx rfl (X.hd hd) rfl q) K
theorem og_nonnullN (X : OSt Z EL a0 n0 h0 ws own bytes mx p l e R s m args below meth c sv T h k n) (pc' : Nat) {o : Int} (hd : decode bytes pc = .ok (.ifnonnull o, 3))  (hq : pc' = pc + 3) (K : OGo p.tables e below P T (mkF m pc' Ls st)) : OGo p.tables e below P T (mkF m pc Ls (.null :: st)) := by
  subst hq
  exact og (fun _ q => XT.ifnonnullNo X.here X.hx rfl (X.hd hd) rfl q) K
theorem og_acmpN (X : OSt Z EL a0 n0 h0 ws own bytes mx p l e R s m args below meth c sv T h k n) (pc' : Nat) {cd : ClassFile.ACond} {o : Int} {x y : Value} (hd : decode bytes pc = .ok (.if_acmp cd o, 3)) (hx' : x.isRef = true) (hy' : y.isRef = true) (hc : Jvm.Free.XT.acmp cd x y = false) (hq : pc' = pc + 3) (K : OGo p.tables e below P T (mkF m pc' Ls st)) : OGo p.tables e below P T (mkF m pc Ls (y :: x :: st)) := by
  subst hq
  exact og (fun _ q => XT.acmpNo X.here X.hx rfl (X.hd hd) rfl hx' hy' hc q) K
theorem own_nc8 (y : Int32) : nar .char (y &&& 255) = y &&& 255 := i2c_mask y
theorem own_u16 (u : UInt16) : (u.toUInt32.toInt32).toInt = u.toNat := by
  have hu := u.toNat_lt
  show ((u.toUInt32).toBitVec).toInt = _
  have hm : (u.toUInt32).toBitVec.toNat = u.toNat := by
    show (u.toUInt32).toNat = _
    simp
  rw [BitVec.toInt_eq_toNat_cond, hm, if_pos (by omega)]
theorem own_ncc (y : Int32) : nar .char (y.toUInt32.toUInt16.toUInt32.toInt32) = y.toUInt32.toUInt16.toUInt32.toInt32 := by
  have e : (y.toUInt32.toUInt16.toUInt32.toInt32).toUInt32.toUInt16 = y.toUInt32.toUInt16 := UInt16.toUInt16_toUInt32 _
  show ((y.toUInt32.toUInt16.toUInt32.toInt32).toUInt32.toUInt16).toUInt32.toInt32 = _
  rw [e]
theorem own_lat16 (y : Int32) : ¬ y.toUInt32.toUInt16.toUInt32.toInt32 < 0 ∧ ¬ (65535 : Int32) < y.toUInt32.toUInt16.toUInt32.toInt32 := by
  have h2 := (y.toUInt32.toUInt16).toNat_lt
  have e1 : (0 : Int32).toInt = 0 := (by decide)
  have e2 : (65535 : Int32).toInt = 65535 := (by decide)
  rw [Int32.lt_iff_toInt_lt, Int32.lt_iff_toInt_lt, own_u16, e1, e2]
  omega
theorem own_lat8 (x : Int32) : ¬ (x &&& 255) < 0 ∧ ¬ (255 : Int32) < (x &&& 255) := by
  have t : ∀ k : Fin 256, ¬ (Int32.ofNat k.val) < 0 ∧ ¬ (255 : Int32) < (Int32.ofNat k.val) := by decide +kernel
  have h : (x &&& 255).toBitVec.toNat < 256 := by
    simp only [Int32.toBitVec_and, BitVec.toNat_and]
    exact Nat.lt_succ_of_le Nat.and_le_right
  have e : (x &&& 255) = Int32.ofNat (x &&& 255).toBitVec.toNat := by
    apply Int32.toBitVec_inj.mp
    show _ = BitVec.ofNat 32 _
    rw [BitVec.ofNat_toNat]; simp
  rw [e]
  exact t ⟨_, h⟩
theorem own_up8 {c : Int32} (h : ¬ (255 : Int32) < c) : ¬ (65535 : Int32) < c := fun q => h (by rw [Int32.lt_iff_toInt_lt] at q ⊢; have e1 : (65535 : Int32).toInt = 65535 := rfl; have e2 : (255 : Int32).toInt = 255 := rfl; omega)
def own_stv (Z : State) (C n d : String) : Value := ((Term.static C n d).eval #[] Z none [] Z).getD .null
def own_sti (Z : State) (C n d : String) : Int32 := match (Term.static C n d).eval #[] Z none [] Z with | some (.int z) => z | _ => 0
theorem own_stv_of {Z : State} {C n d : String} {v : Value} {a : Array Value} (h : (Term.static C n d).eval a Z none [] Z = some v) : own_stv Z C n d = v := by
  have q : (Term.static C n d).eval #[] Z none [] Z = some v := h
  simp [own_stv, q]
theorem own_sti_of {Z : State} {C n d : String} {v : Int32} {a : Array Value} (h : (Term.static C n d).eval a Z none [] Z = some (.int v)) : own_sti Z C n d = v := by
  have q : (Term.static C n d).eval #[] Z none [] Z = some (.int v) := h
  simp [own_sti, q]
theorem own_l0 {P : Int32 → Prop} : ∀ c ∈ ([] : List Int32), P c := fun _ q => nomatch q
theorem own_lS {P : Int32 → Prop} {y : Int32} {M : List Int32} (q : P y) (r : ∀ x ∈ M, P x) : ∀ x ∈ y :: M, P x := fun x z => (List.mem_cons.mp z).elim (fun u => u ▸ q) (r x)
def own_N (x : Int32) : Nat := x.toBitVec.toNat
theorem own_N_lt (x : Int32) : own_N x < 4294967296 := x.toBitVec.isLt
theorem own_N_inj {x y : Int32} : own_N x = own_N y ↔ x = y := ⟨fun h => Int32.toBitVec_inj.mp (BitVec.eq_of_toNat_eq h), fun h => by rw [h]⟩
theorem own_N_and {x m : Int32} (k : Nat) (hm : m.toBitVec.toNat = 2 ^ k - 1) : own_N (x &&& m) = own_N x % 2 ^ k := by
  unfold own_N; rw [Int32.toBitVec_and, BitVec.toNat_and, hm, Nat.and_two_pow_sub_one_eq_mod]
theorem own_N_ushr {x j : Int32} (k : Nat) (hj : (j &&& 31).toUInt32.toNat = k) (hk : k < 32) : own_N (XT.ushr x j) = own_N x / 2 ^ k := by
  show (x.toUInt32 >>> (j &&& 31).toUInt32).toNat = x.toUInt32.toNat / 2 ^ k
  rw [UInt32.toNat_shiftRight, hj, Nat.mod_eq_of_lt hk, Nat.shiftRight_eq_div_pow]
theorem own_N3 (x : Int32) : own_N (x &&& 3) = own_N x % 4 := own_N_and 2 rfl
theorem own_N255 (x : Int32) : own_N (x &&& 255) = own_N x % 256 := own_N_and 8 rfl
theorem own_nbb (y : Int32) : (y.toInt8.toInt32).toInt8.toInt32 = y.toInt8.toInt32 := by simp
theorem own_zb {z : Int32} (h : z = 0 ∨ z = 1) : narrow .boolean (.int z) = .int z ∧ fits .boolean (.int z) = true := by rcases h with rfl | rfl <;> exact ⟨rfl, rfl⟩
theorem own_xor0 {a b : Int32} : a ^^^ b = 0 ↔ a = b := by
  rw [← Int32.toBitVec_inj, ← Int32.toBitVec_inj, Int32.toBitVec_xor]
  exact BitVec.xor_eq_zero_iff
theorem own_xor_ushr_and (x y j k : Int32) : XT.ushr (x ^^^ y) j &&& k = (XT.ushr x j &&& k) ^^^ (XT.ushr y j &&& k) := by
  apply Int32.toBitVec_inj.mp
  show ((x ^^^ y).toUInt32 >>> (j &&& 31).toUInt32).toBitVec &&& k.toBitVec = ((x.toUInt32 >>> (j &&& 31).toUInt32).toBitVec &&& k.toBitVec) ^^^ ((y.toUInt32 >>> (j &&& 31).toUInt32).toBitVec &&& k.toBitVec)
  have e : (x ^^^ y).toUInt32 = x.toUInt32 ^^^ y.toUInt32 := rfl
  rw [e, UInt32.toBitVec_shiftRight, UInt32.toBitVec_shiftRight, UInt32.toBitVec_shiftRight, UInt32.toBitVec_xor]
  ext i hi
  simp [Bool.and_xor_distrib_right]
theorem own_nch {c : Int32} (h0 : ¬ c < 0) (h1 : ¬ (65535 : Int32) < c) : nar .char c = c := by
  rw [Int32.lt_iff_toInt_lt] at h0 h1
  have e0 : (0 : Int32).toInt = 0 := rfl
  have e1 : (65535 : Int32).toInt = 65535 := rfl
  rw [e0] at h0; rw [e1] at h1
  have hn : c.toUInt32.toNat = c.toInt.toNat := by
    have : c.toInt = (c.toBitVec).toInt := rfl
    have h2 : (c.toBitVec).toInt = if 2 * c.toBitVec.toNat < 2 ^ 32 then (c.toBitVec.toNat : Int) else (c.toBitVec.toNat : Int) - 2 ^ 32 := BitVec.toInt_eq_toNat_cond _
    have h3 : c.toUInt32.toNat = c.toBitVec.toNat := rfl
    have := c.toBitVec.isLt
    split at h2 <;> omega
  apply Int32.toInt_inj.mp
  show (c.toUInt32.toUInt16.toUInt32.toInt32).toInt = _
  rw [own_u16]
  show ((c.toUInt32.toUInt16.toNat : Nat) : Int) = _
  have h4 : c.toUInt32.toUInt16.toNat = c.toUInt32.toNat % 65536 := by simp
  rw [h4, hn]; omega
theorem own_fitC {c : Int32} (h0 : ¬ c < 0) (h1 : ¬ (65535 : Int32) < c) : narrow .char (.int c) = .int c := by
  show Value.int (nar .char c) = _
  rw [own_nch h0 h1]
theorem own_lc {x : Int64} (h1 : ¬ x < -128) (h2 : ¬ 127 < x) : ¬ (x.toInt32 + 128) < 0 ∧ (x.toInt32 + 128) < 256 ∧ ((x.toInt32 + 128) - 128).toInt64 = x := by
  rw [Int64.lt_iff_toInt_lt] at h1 h2
  have e1 : (-128 : Int64).toInt = -128 := rfl
  have e2 : (127 : Int64).toInt = 127 := rfl
  rw [e1] at h1; rw [e2] at h2
  have hx : x.toInt32.toInt = x.toInt := by rw [Int64.toInt_toInt32]; exact Int.bmod_eq_of_le (by omega) (by omega)
  have hs : (x.toInt32 + 128).toInt = x.toInt + 128 := by
    rw [Int32.toInt_add, hx]; show (x.toInt + 128).bmod _ = _; exact Int.bmod_eq_of_le (by omega) (by omega)
  refine ⟨?_, ?_, ?_⟩
  · rw [Int32.lt_iff_toInt_lt, hs]; show ¬ _ < (0 : Int); omega
  · rw [Int32.lt_iff_toInt_lt, hs]; show _ < (256 : Int); omega
  · apply Int64.toInt_inj.mp
    rw [Int32.toInt_toInt64, Int32.toInt_sub, hs]
    show (x.toInt + 128 - 128).bmod _ = _
    rw [show x.toInt + 128 - 128 = x.toInt by omega]
    exact Int.bmod_eq_of_le (by omega) (by omega)
theorem own_and3 (y : Int32) : y &&& 3 = 0 ∨ y &&& 3 = 1 ∨ y &&& 3 = 2 ∨ y &&& 3 = 3 := by
  have c0 : own_N 0 = 0 := rfl
  have c1 : own_N 1 = 1 := rfl
  have c2 : own_N 2 = 2 := rfl
  have c3 : own_N 3 = 3 := rfl
  simp only [← own_N_inj, own_N3, c0, c1, c2, c3]
  omega
def own_sta (Z : State) (C n d : String) : Addr := match own_stv Z C n d with | .ref a => a | _ => 0
theorem own_sta_of {Z : State} {C n d : String} {v : Addr} {a : Array Value} (h : (Term.static C n d).eval a Z none [] Z = some (.ref v)) : own_sta Z C n d = v := by
  unfold own_sta; rw [own_stv_of h]
theorem own_new (X : OSt Z EL a0 n0 h0 ws own bytes mx p l e R s m args below meth c sv T h k n) (pc' : Nat) {C : String} {index z : Nat} (hd : decode bytes pc = .ok (.new index, 3)) (w : (Cond.classLink own index C).before a0 Z = true) (wi : (Cond.instantiable C z).before a0 Z = true) (wz : (Cond.initialized C).before a0 Z = true) (hc : k + 1 ≤ R.cells) (hl : n + z ≤ R.slots) (hq : pc' = pc + 3)
    (K : ∀ (T' : State) (h' : Heap) (b : Addr), OSt Z EL a0 n0 h0 ws own bytes mx p l e R s m args below meth c (b :: sv) T' h' (k + 1) (n + z) → Keep h h' [] → h.size ≤ b → b < h'.size → Exa Z h' b C → (∀ {O nm d : String} {ty : FieldType}, Laid Z a0 C O nm d → parseFieldDescriptor d = some ty → Fld Z h' b O nm d (defaultValue ty)) → OGo p.tables e below P T' (mkF m pc' Ls (.ref b :: st))) : OGo p.tables e below P T (mkF m pc Ls st) := by
  subst hq
  obtain ⟨hx, hby, hml, eT, hlk, vm0, locs, Y, I⟩ := X
  obtain ⟨T', h', Y', e', E, A, D, -, stp⟩ := newO Y hx (show Z.Warmed39 (s.setVm vm0).vm from I.2.2.2.2.1) (show (s.setVm vm0).vm.findClass own = _ from I.2.2.2.2.2.1) w wi wz eT (g := mkF m pc Ls st) rfl (hb hby hd) hc hl
  exact og stp (K T' h' h.size ⟨hx, hby, hml, e', hlk, vm0, locs, Y', I.new E (Nat.le_refl _) A.lt⟩ ((Keep.refl _ _).ext E) (Nat.le_refl _) A.lt A D)
theorem own_arr (X : OSt Z EL a0 n0 h0 ws own bytes mx p l e R s m args below meth c sv T h k n) (pc' : Nat) {aty : ArrayType} {z : Int32} (hd : decode bytes pc = .ok (.newarray aty, 2)) (w : (Cond.arrayClass (newarray.typeOf aty)).before a0 Z = true) (hz : ¬ z < 0) {cap : Nat} (hcap : z.toNatClampNeg = cap) (hbig : cap * 8 ≤ 536870912) (hc : k + 1 ≤ R.cells) (hl : n + cap ≤ R.slots) (hq : pc' = pc + 2)
    (K : ∀ (T' : State) (h' : Heap) (b : Addr) (kb : ClassId), OSt Z EL a0 n0 h0 ws own bytes mx p l e R s m args below meth c (b :: sv) T' h' (k + 1) (n + cap) → Keep h h' [] → h.size ≤ b → b < h'.size → Arv Z h' b kb (newarray.typeOf aty) z (List.replicate cap (defaultValue (newarray.typeOf aty))) (defaultValue (newarray.typeOf aty)) → OGo p.tables e below P T' (mkF m pc' Ls (.ref b :: st))) : OGo p.tables e below P T (mkF m pc Ls (.int z :: st)) := by
  subst hq
  obtain ⟨hx, hby, hml, eT, hlk, vm0, locs, Y, I⟩ := X
  obtain ⟨T', h', kb, Y', e', E, A, stp⟩ := newP Y hx (show Z.Warmed39 (s.setVm vm0).vm from I.2.2.2.2.1) w eT (g := mkF m pc Ls (.int z :: st)) rfl (hb hby hd) rfl hz (cap := cap) (Nat.le_of_eq hcap) hbig hc hl
  have V := (Arv.new A hz).pad (pad_rep [] (defaultValue (newarray.typeOf aty)) cap)
  rw [List.nil_append] at V
  exact og stp (K T' h' h.size kb ⟨hx, hby, hml, e', hlk, vm0, locs, Y', I.new E (Nat.le_refl _) A.lt⟩ ((Keep.refl _ _).ext E) (Nat.le_refl _) A.lt V)
theorem own_anew (X : OSt Z EL a0 n0 h0 ws own bytes mx p l e R s m args below meth c sv T h k n) (pc' : Nat) {C : String} {index : Nat} {z : Int32} (hd : decode bytes pc = .ok (.anewarray index, 3)) (w : (Cond.classLink own index C).before a0 Z = true) (w2 : (Cond.arrayOver (.object C)).before a0 Z = true) (hz : ¬ z < 0) {cap : Nat} (hcap : z.toNatClampNeg = cap) (hbig : cap * 8 ≤ 536870912) (hc : k + 1 ≤ R.cells) (hl : n + cap ≤ R.slots) (hq : pc' = pc + 3)
    (K : ∀ (T' : State) (h' : Heap) (b : Addr) (kb : ClassId), OSt Z EL a0 n0 h0 ws own bytes mx p l e R s m args below meth c (b :: sv) T' h' (k + 1) (n + cap) → Keep h h' [] → h.size ≤ b → b < h'.size → Arv Z h' b kb (.object C) z (List.replicate cap .null) .null → Ovr Z kb C → OGo p.tables e below P T' (mkF m pc' Ls (.ref b :: st))) : OGo p.tables e below P T (mkF m pc Ls (.int z :: st)) := by
  subst hq
  obtain ⟨hx, hby, hml, eT, hlk, vm0, locs, Y, I⟩ := X
  obtain ⟨T', h', kb, Y', e', E, A, O, stp⟩ := newR Y hx (show Z.Warmed39 (s.setVm vm0).vm from I.2.2.2.2.1) (show (s.setVm vm0).vm.findClass own = _ from I.2.2.2.2.2.1) w w2 eT (g := mkF m pc Ls (.int z :: st)) rfl (hb hby hd) rfl hz (cap := cap) (Nat.le_of_eq hcap) hbig hc hl
  have V := (Arv.new A hz).pad (pad_rep [] (defaultValue (.object C)) cap)
  rw [List.nil_append] at V
  exact og stp (K T' h' h.size kb ⟨hx, hby, hml, e', hlk, vm0, locs, Y', I.new E (Nat.le_refl _) A.lt⟩ ((Keep.refl _ _).ext E) (Nat.le_refl _) A.lt V O)
theorem own_put (X : OSt Z EL a0 n0 h0 ws own bytes mx p l e R s m args below meth c sv T h k n) (pc' : Nat) {R0 O nm d host C : String} {index kk : Nat} {ty : FieldType} {a : Addr} {v old : Value} (hd : decode bytes pc = .ok (.putfield index, 3)) (w : (Cond.fieldLink own index R0 nm d).before a0 Z = true ∨ (Cond.fieldLinkNest own index R0 nm d host).before a0 Z = true) (via : Via Z R0 O nm d)
    (F : Fld Z h a O nm d old) (E : Exa Z h a C) (L : (Cond.lays C O nm d).before a0 Z = true ∨ ((Cond.laysFinal C O nm d).before a0 Z = true ∧ own = O ∧ meth.name = "<init>")) (wi : (Cond.instantiable C kk).before a0 Z = true) (hty : parseFieldDescriptor d = some ty) (hn : narrow ty v = v) (hf : fits ty v = true) (ha : a ∈ sv) (hq : pc' = pc + 3)
    (K : ∀ (T' : State) (h' : Heap), OSt Z EL a0 n0 h0 ws own bytes mx p l e R s m args below meth c sv T' h' k n → Wr h h' a (RoadKit.slotOf Z O nm d) v → Keep h h' [a] → Fld Z h' a O nm d v → OGo p.tables e below P T' (mkF m pc' Ls st)) : OGo p.tables e below P T (mkF m pc Ls (v :: .ref a :: st)) := by
  subst hq
  obtain ⟨hx, hby, hml, eT, hlk, vm0, locs, Y, I⟩ := X
  obtain ⟨T', h', Y', e', W, stp⟩ := putF Y hx (show Z.Warmed39 (s.setVm vm0).vm from I.2.2.2.2.1) (show (s.setVm vm0).vm.findClass own = _ from I.2.2.2.2.2.1) w via eT F E L wi hty hn hf (g := mkF m pc Ls (v :: .ref a :: st)) rfl rfl (hb hby hd)
  exact og stp (K T' h' ⟨hx, hby, hml, e', hlk, vm0, _, Y', I.wr ha W⟩ W (Keep.of_wr W) (F.same W))
theorem own_get (X : OSt Z EL a0 n0 h0 ws own bytes mx p l e R s m args below meth c sv T h k n) (pc' : Nat) {R0 O nm d host : String} {index : Nat} {a : Addr} {v : Value} (hd : decode bytes pc = .ok (.getfield index, 3)) (w : (Cond.fieldLink own index R0 nm d).before a0 Z = true ∨ (Cond.fieldLinkNest own index R0 nm d host).before a0 Z = true) (via : Via Z R0 O nm d) (F : Fld Z h a O nm d v) (hq : pc' = pc + 3)
    (K : ∀ (T' : State), OSt Z EL a0 n0 h0 ws own bytes mx p l e R s m args below meth c sv T' h k n → OGo p.tables e below P T' (mkF m pc' Ls (v :: st))) : OGo p.tables e below P T (mkF m pc Ls (.ref a :: st)) := by
  subst hq
  obtain ⟨hx, hby, hml, eT, hlk, vm0, locs, Y, I⟩ := X
  obtain ⟨T', Y', e', stp⟩ := getF Y hx (show Z.Warmed39 (s.setVm vm0).vm from I.2.2.2.2.1) (show (s.setVm vm0).vm.findClass own = _ from I.2.2.2.2.2.1) w via eT F (g := mkF m pc Ls (.ref a :: st)) rfl rfl (hb hby hd)
  exact og stp (K T' ⟨hx, hby, hml, e', hlk, vm0, _, Y', I⟩)
theorem own_getS (X : OSt Z EL a0 n0 h0 ws own bytes mx p l e R s m args below meth c sv T h k n) (pc' : Nat) {R0 O nm d host : String} {index : Nat} {v : Value} (hd : decode bytes pc = .ok (.getstatic index, 3)) (w : (Cond.fieldLink own index R0 nm d).before a0 Z = true ∨ (Cond.fieldLinkNest own index R0 nm d host).before a0 Z = true) (via : Via Z R0 O nm d) (F : Sta Z Z.heap O nm d v) (hq : pc' = pc + 3)
    (K : ∀ (T' : State), OSt Z EL a0 n0 h0 ws own bytes mx p l e R s m args below meth c sv T' h k n → OGo p.tables e below P T' (mkF m pc' Ls (v :: st))) : OGo p.tables e below P T (mkF m pc Ls st) := by
  subst hq
  have O1 := X.old
  obtain ⟨hx, hby, hml, eT, hlk, vm0, locs, Y, I⟩ := X
  obtain ⟨T', Y', e', stp⟩ := getS2 Y hx (show Z.Warmed39 (s.setVm vm0).vm from I.2.2.2.2.1) (show (s.setVm vm0).vm.findClass own = _ from I.2.2.2.2.2.1) w via eT (F.ext O1.2) (g := mkF m pc Ls st) rfl (hb hby hd)
  exact og stp (K T' ⟨hx, hby, hml, e', hlk, vm0, _, Y', I⟩)
theorem own_cast (X : OSt Z EL a0 n0 h0 ws own bytes mx p l e R s m args below meth c sv T h k n) (pc' : Nat) {C : String} {index : Nat} {a : Addr} (hd : decode bytes pc = .ok (.checkcast index, 3)) (w : (Cond.classLink own index C).before a0 Z = true) (F : Ins Z h a C true) (hq : pc' = pc + 3)
    (K : ∀ (T' : State), OSt Z EL a0 n0 h0 ws own bytes mx p l e R s m args below meth c sv T' h k n → OGo p.tables e below P T' (mkF m pc' Ls (.ref a :: st))) : OGo p.tables e below P T (mkF m pc Ls (.ref a :: st)) := by
  subst hq
  obtain ⟨hx, hby, hml, eT, hlk, vm0, locs, Y, I⟩ := X
  obtain ⟨T', Y', e', stp⟩ := castY Y hx (show Z.Warmed39 (s.setVm vm0).vm from I.2.2.2.2.1) (show (s.setVm vm0).vm.findClass own = _ from I.2.2.2.2.2.1) w eT F (g := mkF m pc Ls (.ref a :: st)) rfl rfl (hb hby hd)
  exact og stp (K T' ⟨hx, hby, hml, e', hlk, vm0, _, Y', I⟩)
theorem own_instY (X : OSt Z EL a0 n0 h0 ws own bytes mx p l e R s m args below meth c sv T h k n) (pc' : Nat) {C : String} {index : Nat} {a : Addr} (hd : decode bytes pc = .ok (.instanceof index, 3)) (w : (Cond.classLink own index C).before a0 Z = true) (F : Ins Z h a C true) (hq : pc' = pc + 3)
    (K : ∀ (T' : State), OSt Z EL a0 n0 h0 ws own bytes mx p l e R s m args below meth c sv T' h k n → OGo p.tables e below P T' (mkF m pc' Ls (.int 1 :: st))) : OGo p.tables e below P T (mkF m pc Ls (.ref a :: st)) := by
  subst hq
  obtain ⟨hx, hby, hml, eT, hlk, vm0, locs, Y, I⟩ := X
  obtain ⟨T', Y', e', stp⟩ := instY Y hx (show Z.Warmed39 (s.setVm vm0).vm from I.2.2.2.2.1) (show (s.setVm vm0).vm.findClass own = _ from I.2.2.2.2.2.1) w eT F (g := mkF m pc Ls (.ref a :: st)) rfl rfl (hb hby hd)
  exact og stp (K T' ⟨hx, hby, hml, e', hlk, vm0, _, Y', I⟩)
theorem own_instN (X : OSt Z EL a0 n0 h0 ws own bytes mx p l e R s m args below meth c sv T h k n) (pc' : Nat) {C C' : String} {index : Nat} {a : Addr} (hd : decode bytes pc = .ok (.instanceof index, 3)) (w : (Cond.classLink own index C).before a0 Z = true) (F : Ins Z h0 a C false) (E : Exa Z h0 a C') (hq : pc' = pc + 3)
    (K : ∀ (T' : State), OSt Z EL a0 n0 h0 ws own bytes mx p l e R s m args below meth c sv T' h k n → OGo p.tables e below P T' (mkF m pc' Ls (.int 0 :: st))) : OGo p.tables e below P T (mkF m pc Ls (.ref a :: st)) := by
  subst hq
  obtain ⟨hx, hby, hml, eT, hlk, vm0, locs, Y, I⟩ := X
  have e0 : (s.setVm vm0).heap = h0 := I.1
  obtain ⟨T', Y', e', stp⟩ := instN Y hx (show Z.Warmed39 (s.setVm vm0).vm from I.2.2.2.2.1) (show (s.setVm vm0).vm.findClass own = _ from I.2.2.2.2.2.1) w eT (by rw [e0]; exact F) (by rw [e0]; exact E) (g := mkF m pc Ls (.ref a :: st)) rfl rfl (hb hby hd)
  exact og stp (K T' ⟨hx, hby, hml, e', hlk, vm0, _, Y', I⟩)
theorem own_obj0 (X : OSt Z EL a0 n0 h0 ws own bytes mx p l e R s m args below meth c sv T h k n) (pc' : Nat) {index : Nat} {a : Addr} (hd : decode bytes pc = .ok (.invokespecial index, 3)) (w1 : (Cond.methodLink own index Lib.objectInit).before a0 Z = true) (w2 : (Cond.instanceMethod Lib.objectInit).before a0 Z = true) (w3 : (Cond.code Lib.objectInit ⟨#[0xb1]⟩ 1 none).before a0 Z = true) (hsz : Ls.size = mx) {W : Nat} (hW : (st.map fun v => v.category).sum = W) (hf : 1 ≤ R.frames) (hl : W + 12 ≤ R.locals) (hq : pc' = pc + 3)
    (K : ∀ (T' : State), OSt Z EL a0 n0 h0 ws own bytes mx p l e R s m args below meth c sv T' h k n → OGo p.tables e below P T' (mkF m pc' Ls st)) : OGo p.tables e below P T (mkF m pc Ls (.ref a :: st)) := by
  subst hq
  obtain ⟨hx, hby, hml, eT, hlk, vm0, locs, Y, I⟩ := X
  obtain ⟨T', Y', e', stp⟩ := initO Y hx (show Z.Warmed39 (s.setVm vm0).vm from I.2.2.2.2.1) (show (s.setVm vm0).vm.findClass own = _ from I.2.2.2.2.2.1) w1 w2 w3 eT (g := mkF m pc Ls (.ref a :: st)) rfl (by rw [hml]; exact hsz) rfl (hb hby hd) hf (W := W) (by show 2 * 0 + _ ≤ _; rw [hW]; omega) hl
  exact og stp (K T' ⟨hx, hby, hml, e', hlk, vm0, _, Y', I⟩)
theorem own_inb {cl : Cell} {z j : Int32} (S : cl.slots.size = z.toNatClampNeg) (h1 : ¬ j < 0) (h2 : j < z) : ¬ (j < 0 ∨ cl.slots.size ≤ j.toNatClampNeg) := inb_of S ⟨h1, h2⟩
theorem own_stC (X : OSt Z EL a0 n0 h0 ws own bytes mx p l e R s m args below meth c sv T h k n) (pc' : Nat) {a : Addr} {kb : ClassId} {z j x x' : Int32} {vs : List Value} {dv : Value} (hd : decode bytes pc = .ok (.castore, 1)) (A : Arv Z h a kb .char z vs dv) (hx' : nar .char x = x') (h1 : ¬ j < 0) (h2 : j < z) {i : Nat} (hi : j.toNatClampNeg = i) (hl : i < vs.length) (ha : a ∈ sv) (hq : pc' = pc + 1)
    (K : ∀ (T' : State) (h' : Heap), OSt Z EL a0 n0 h0 ws own bytes mx p l e R s m args below meth c sv T' h' k n → Wr h h' a j.toNatClampNeg (.int x') → Keep h h' [a] → Arv Z h' a kb .char z (vs.set i (.int x')) dv → OGo p.tables e below P T' (mkF m pc' Ls st)) : OGo p.tables e below P T (mkF m pc Ls (.int x :: .int j :: .ref a :: st)) := by
  subst hq hx'
  obtain ⟨hx, hby, hml, eT, hlk, vm0, locs, Y, I⟩ := X
  obtain ⟨cl, Ar, q, S, N, Hs, G⟩ := A
  obtain ⟨T', h', Y', e', W, stp⟩ := stC Y hx (show Z.Warmed39 (s.setVm vm0).vm from I.2.2.2.2.1) eT Ar (j := j) (x := x) (own_inb S h1 h2) (g := mkF m pc Ls (.int x :: .int j :: .ref a :: st)) rfl rfl (hb hby hd)
  exact og stp (K T' h' ⟨hx, hby, hml, e', hlk, vm0, _, Y', I.wr ha W⟩ W (Keep.of_wr W) (Arv.set Ar q S N Hs G (fits_nar_char _) W i hi hl))
theorem own_stB (X : OSt Z EL a0 n0 h0 ws own bytes mx p l e R s m args below meth c sv T h k n) (pc' : Nat) {a : Addr} {kb : ClassId} {z j x x' : Int32} {vs : List Value} {dv : Value} (hd : decode bytes pc = .ok (.bastore, 1)) (A : Arv Z h a kb .byte z vs dv) (hx' : x.toInt8.toInt32 = x') (h1 : ¬ j < 0) (h2 : j < z) {i : Nat} (hi : j.toNatClampNeg = i) (hl : i < vs.length) (ha : a ∈ sv) (hq : pc' = pc + 1)
    (K : ∀ (T' : State) (h' : Heap), OSt Z EL a0 n0 h0 ws own bytes mx p l e R s m args below meth c sv T' h' k n → Wr h h' a j.toNatClampNeg (.int x') → Keep h h' [a] → Arv Z h' a kb .byte z (vs.set i (.int x')) dv → OGo p.tables e below P T' (mkF m pc' Ls st)) : OGo p.tables e below P T (mkF m pc Ls (.int x :: .int j :: .ref a :: st)) := by
  subst hq hx'
  obtain ⟨hx, hby, hml, eT, hlk, vm0, locs, Y, I⟩ := X
  obtain ⟨cl, Ar, q, S, N, Hs, G⟩ := A
  obtain ⟨T', h', Y', e', W, stp⟩ := stB Y hx (show Z.Warmed39 (s.setVm vm0).vm from I.2.2.2.2.1) eT Ar (j := j) (x := x) (own_inb S h1 h2) (g := mkF m pc Ls (.int x :: .int j :: .ref a :: st)) rfl rfl (hb hby hd)
  exact og stp (K T' h' ⟨hx, hby, hml, e', hlk, vm0, _, Y', I.wr ha W⟩ W (Keep.of_wr W) (Arv.set Ar q S N Hs G (fits_nar_byte _) W i hi hl))
theorem own_stR (X : OSt Z EL a0 n0 h0 ws own bytes mx p l e R s m args below meth c sv T h k n) (pc' : Nat) {a : Addr} {kb : ClassId} {ty : FieldType} {z j : Int32} {v : Value} {vs : List Value} {dv : Value} (hd : decode bytes pc = .ok (.aastore, 1)) (A : Arv Z h a kb ty z vs dv) (hty : ty.isReference = true) (hf : fits ty v = true) (F : Sto Z h a v) (h1 : ¬ j < 0) (h2 : j < z) {i : Nat} (hi : j.toNatClampNeg = i) (hl : i < vs.length) (ha : a ∈ sv) (hq : pc' = pc + 1)
    (K : ∀ (T' : State) (h' : Heap), OSt Z EL a0 n0 h0 ws own bytes mx p l e R s m args below meth c sv T' h' k n → Wr h h' a j.toNatClampNeg v → Keep h h' [a] → Arv Z h' a kb ty z (vs.set i v) dv → OGo p.tables e below P T' (mkF m pc' Ls st)) : OGo p.tables e below P T (mkF m pc Ls (v :: .int j :: .ref a :: st)) := by
  subst hq
  obtain ⟨hx, hby, hml, eT, hlk, vm0, locs, Y, I⟩ := X
  obtain ⟨cl, Ar, q, S, N, Hs, G⟩ := A
  obtain ⟨T', h', Y', e', W, stp⟩ := stR Y hx (show Z.Warmed39 (s.setVm vm0).vm from I.2.2.2.2.1) eT Ar (j := j) (v := v) (own_inb S h1 h2) hty F (g := mkF m pc Ls (v :: .int j :: .ref a :: st)) rfl rfl (hb hby hd)
  exact og stp (K T' h' ⟨hx, hby, hml, e', hlk, vm0, _, Y', I.wr ha W⟩ W (Keep.of_wr W) (Arv.set Ar q S N Hs G hf W i hi hl))
theorem own_len (X : OSt Z EL a0 n0 h0 ws own bytes mx p l e R s m args below meth c sv T h k n) (pc' : Nat) {a : Addr} {kb : ClassId} {ty : FieldType} {z : Int32} {vs : List Value} {dv : Value} (hd : decode bytes pc = .ok (.arraylength, 1)) (A : Arv Z h a kb ty z vs dv) (hq : pc' = pc + 1) (K : OGo p.tables e below P T (mkF m pc' Ls (.int z :: st))) : OGo p.tables e below P T (mkF m pc Ls (.ref a :: st)) := by
  subst hq
  obtain ⟨hx, hby, hml, eT, hlk, vm0, locs, Y, I⟩ := X
  obtain ⟨cl, Ar, q, S, N, Hs, G⟩ := A
  refine og (fun _ r => Y.arraylength hx (by rw [eT]; exact Ar.1) (State.isArrayOf_alike (show Z.Warmed39 (s.setVm vm0).vm from I.2.2.2.2.1).alike Ar.2.1) (g := mkF m pc Ls (.ref a :: st)) rfl rfl (hb hby hd) _ r) ?_
  rw [len_of S N]; exact K
theorem own_ldC (X : OSt Z EL a0 n0 h0 ws own bytes mx p l e R s m args below meth c sv T h k n) (pc' : Nat) {a : Addr} {kb : ClassId} {z j : Int32} {v : Value} {vs : List Value} {dv : Value} (hd : decode bytes pc = .ok (.caload, 1)) (A : Arv Z h a kb .char z vs dv) (h1 : ¬ j < 0) (h2 : j < z) (hv : vs.getD j.toNatClampNeg dv = v) (hq : pc' = pc + 1) (K : OGo p.tables e below P T (mkF m pc' Ls (v :: st))) : OGo p.tables e below P T (mkF m pc Ls (.int j :: .ref a :: st)) := by
  subst hq
  obtain ⟨hx, hby, hml, eT, hlk, vm0, locs, Y, I⟩ := X
  obtain ⟨cl, Ar, q, S, N, Hs, G⟩ := A
  exact og (fun _ r => Y.caload hx (j := j) (v := v) (by rw [eT]; exact Ar.1) (State.isArrayOf_alike (show Z.Warmed39 (s.setVm vm0).vm from I.2.2.2.2.1).alike Ar.2.1) Ar.2.2 (own_inb S h1 h2) (Hs.at (own_inb S h1 h2) hv) (g := mkF m pc Ls (.int j :: .ref a :: st)) rfl rfl (hb hby hd) _ r) K
theorem own_ldB (X : OSt Z EL a0 n0 h0 ws own bytes mx p l e R s m args below meth c sv T h k n) (pc' : Nat) {a : Addr} {kb : ClassId} {z j : Int32} {v : Value} {vs : List Value} {dv : Value} (hd : decode bytes pc = .ok (.baload, 1)) (A : Arv Z h a kb .byte z vs dv) (h1 : ¬ j < 0) (h2 : j < z) (hv : vs.getD j.toNatClampNeg dv = v) (hq : pc' = pc + 1) (K : OGo p.tables e below P T (mkF m pc' Ls (v :: st))) : OGo p.tables e below P T (mkF m pc Ls (.int j :: .ref a :: st)) := by
  subst hq
  obtain ⟨hx, hby, hml, eT, hlk, vm0, locs, Y, I⟩ := X
  obtain ⟨cl, Ar, q, S, N, Hs, G⟩ := A
  exact og (fun _ r => Y.baloadBytes hx (j := j) (v := v) (by rw [eT]; exact Ar.1) (State.isArrayOf_alike (show Z.Warmed39 (s.setVm vm0).vm from I.2.2.2.2.1).alike Ar.2.1) Ar.2.2 (own_inb S h1 h2) (Hs.at (own_inb S h1 h2) hv) (g := mkF m pc Ls (.int j :: .ref a :: st)) rfl rfl (hb hby hd) _ r) K
theorem own_ldR (X : OSt Z EL a0 n0 h0 ws own bytes mx p l e R s m args below meth c sv T h k n) (pc' : Nat) {a : Addr} {kb : ClassId} {ty : FieldType} {z j : Int32} {v : Value} {vs : List Value} {dv : Value} (hd : decode bytes pc = .ok (.aaload, 1)) (A : Arv Z h a kb ty z vs dv) (hty : ty.isReference = true) (h1 : ¬ j < 0) (h2 : j < z) (hv : vs.getD j.toNatClampNeg dv = v) (hq : pc' = pc + 1) (K : OGo p.tables e below P T (mkF m pc' Ls (v :: st))) : OGo p.tables e below P T (mkF m pc Ls (.int j :: .ref a :: st)) := by
  subst hq
  obtain ⟨hx, hby, hml, eT, hlk, vm0, locs, Y, I⟩ := X
  obtain ⟨cl, Ar, q, S, N, Hs, G⟩ := A
  exact og (fun _ r => Y.aaload hx (j := j) (v := v) (by rw [eT]; exact Ar.1) (State.isArrayOf_alike (show Z.Warmed39 (s.setVm vm0).vm from I.2.2.2.2.1).alike Ar.2.1) hty Ar.2.2 (own_inb S h1 h2) (Hs.at (own_inb S h1 h2) hv) (g := mkF m pc Ls (.int j :: .ref a :: st)) rfl rfl (hb hby hd) _ r) K
theorem own_ldcI (X : OSt Z EL a0 n0 h0 ws own bytes mx p l e R s m args below meth c sv T h k n) (pc' : Nat) {index : Nat} {v : Int32} (hd : decode bytes pc = .ok (.ldc index, 2)) (w : (Cond.constant own index v).before a0 Z = true) (hq : pc' = pc + 2) (K : OGo p.tables e below P T (mkF m pc' Ls (.int v :: st))) : OGo p.tables e below P T (mkF m pc Ls st) := by
  subst hq
  obtain ⟨hx, hby, hml, eT, hlk, vm0, locs, Y, I⟩ := X
  exact og (fun _ r => Y.ldcInt hx (show (s.setVm vm0).vm.findClass own = _ from I.2.2.2.2.2.1) (mvT (show Z.Warmed39 (s.setVm vm0).vm from I.2.2.2.2.1) w) (g := mkF m pc Ls st) rfl (hb hby hd) _ r) K
theorem own_instNull (X : OSt Z EL a0 n0 h0 ws own bytes mx p l e R s m args below meth c sv T h k n) (pc' : Nat) {index : Nat} (hd : decode bytes pc = .ok (.instanceof index, 3)) (hq : pc' = pc + 3) (K : OGo p.tables e below P T (mkF m pc' Ls (.int 0 :: st))) : OGo p.tables e below P T (mkF m pc Ls (.null :: st)) := by
  subst hq
  obtain ⟨hx, hby, hml, eT, hlk, vm0, locs, Y, I⟩ := X
  exact og (fun _ r => Y.instanceofNull hx (g := mkF m pc Ls (.null :: st)) rfl rfl (hb hby hd) _ r) K
theorem own_castNull (X : OSt Z EL a0 n0 h0 ws own bytes mx p l e R s m args below meth c sv T h k n) (pc' : Nat) {index : Nat} (hd : decode bytes pc = .ok (.checkcast index, 3)) (hq : pc' = pc + 3) (K : OGo p.tables e below P T (mkF m pc' Ls (.null :: st))) : OGo p.tables e below P T (mkF m pc Ls (.null :: st)) := by
  subst hq
  obtain ⟨hx, hby, hml, eT, hlk, vm0, locs, Y, I⟩ := X
  exact og (fun _ r => Y.checkcastNull hx (g := mkF m pc Ls (.null :: st)) rfl rfl (hb hby hd) _ r) K
theorem own_instNo (X : OSt Z EL a0 n0 h0 ws own bytes mx p l e R s m args below meth c sv T h k n) (pc' : Nat) {C C' : String} {index : Nat} {a : Addr} (hd : decode bytes pc = .ok (.instanceof index, 3)) (w : (Cond.classLink own index C).before a0 Z = true) (E : Exa Z h a C') (F : ∃ c t, Z.vm.findClass C' = some c ∧ Z.vm.findClass C = some t ∧ Z.vm.assignable c t = false) (hq : pc' = pc + 3)
    (K : ∀ (T' : State), OSt Z EL a0 n0 h0 ws own bytes mx p l e R s m args below meth c sv T' h k n → OGo p.tables e below P T' (mkF m pc' Ls (.int 0 :: st))) : OGo p.tables e below P T (mkF m pc Ls (.ref a :: st)) := by
  subst hq
  obtain ⟨hx, hby, hml, eT, hlk, vm0, locs, Y, I⟩ := X
  obtain ⟨T', Y', e', stp⟩ := instNo Y hx (show Z.Warmed39 (s.setVm vm0).vm from I.2.2.2.2.1) (show (s.setVm vm0).vm.findClass own = _ from I.2.2.2.2.2.1) w eT E F (g := mkF m pc Ls (.ref a :: st)) rfl rfl (hb hby hd)
  exact og stp (K T' ⟨hx, hby, hml, e', hlk, vm0, _, Y', I⟩)
theorem own_nsRoot {O C : String} {kk : Nat} (w : (Cond.noSuperclass O).before a0 Z = true) (wk : (Cond.instantiable C kk).before a0 Z = true) (hn : O ≠ C) : NS Z O C := by
  obtain ⟨c, k, h1, h2, h3, -, -⟩ := Cond.noSuperclass_spec w
  obtain ⟨t, k2, g1, -⟩ := Cond.instantiable_spec wk
  have ne := ids_ne h1 g1 hn
  refine ⟨c, t, h1, g1, fun fuel => ?_⟩
  cases fuel with
  | zero => rfl
  | succ f => simp [Vm.isSubclassAux, ne, h2, h3]
theorem own_nsNo {C S K' : String} {kk : Nat} (w : (Cond.superclass C S).before a0 Z = true) (wk : (Cond.instantiable K' kk).before a0 Z = true) (N : NS Z C K') (hn : C ≠ K') : ∃ c t, Z.vm.findClass C = some c ∧ Z.vm.findClass K' = some t ∧ Z.vm.assignable c t = false := by
  obtain ⟨c, t, h0, g0, n3⟩ := N
  obtain ⟨p, k, kp, h1, h2, h3, h4, h5, -, h7⟩ := Cond.superclass_spec h0 w
  obtain ⟨t', k2, g1, g2, g3, g4, -⟩ := Cond.instantiable_spec wk
  cases g0.symm.trans g1
  have ne := ids_ne h0 g0 hn
  have g5 : k2.isInterface = false := by
    cases hi : k2.isInterface with
    | false => rfl
    | true => rw [hi] at g4; simp at g4
  refine ⟨c, t, h0, g0, ?_⟩
  show Z.vm.assignableAux (255 + 1) c t = false
  simp [Vm.assignableAux, ne, h2, g2, h5, g3, g5, Vm.isSubclass, n3]
theorem own_ldc2L (X : OSt Z EL a0 n0 h0 ws own bytes mx p l e R s m args below meth c sv T h k n) (pc' : Nat) {index : Nat} {v : Int64} (hd : decode bytes pc = .ok (.ldc2_w index, 3)) (w : (Cond.constantLong own index v).before a0 Z = true) (hq : pc' = pc + 3) (K : OGo p.tables e below P T (mkF m pc' Ls (.long v :: st))) : OGo p.tables e below P T (mkF m pc Ls st) := by
  subst hq
  obtain ⟨hx, hby, hml, eT, hlk, vm0, locs, Y, I⟩ := X
  exact og (fun _ r => Y.ldc2Long hx (show (s.setVm vm0).vm.findClass own = _ from I.2.2.2.2.2.1) (mvT (show Z.Warmed39 (s.setVm vm0).vm from I.2.2.2.2.1) w) (g := mkF m pc Ls st) rfl (hb hby hd) _ r) K
theorem own_ldBox (X : OSt Z EL a0 n0 h0 ws own bytes mx p l e R s m args below meth c sv T h k n) (pc' : Nat) {a : Addr} {cl : Cell} {C d : String} {z j : Int32} {val : Int32 → Value} (hd : decode bytes pc = .ok (.aaload, 1)) (B : Bxs Z a cl C d z val) (h1 : ¬ j < 0) (h2 : j < z) (hq : pc' = pc + 1) (K : ∀ b : Addr, Exa Z h b C → Fld Z h b C "value" d (val j) → OGo p.tables e below P T (mkF m pc' Ls (.ref b :: st))) : OGo p.tables e below P T (mkF m pc Ls (.int j :: .ref a :: st)) := by
  subst hq
  have O1 := X.old
  obtain ⟨hx, hby, hml, eT, hlk, vm0, locs, Y, I⟩ := X
  obtain ⟨A, S, N, F⟩ := B
  obtain ⟨b, q1, q2, q3⟩ := F j (own_inb S h1 h2)
  exact og (fun _ r => Y.aaload hx (j := j) (v := .ref b) (by rw [eT]; exact (A.ext O1.2).1) (State.isArrayOf_alike (show Z.Warmed39 (s.setVm vm0).vm from I.2.2.2.2.1).alike A.2.1) rfl A.2.2 (own_inb S h1 h2) q1 (g := mkF m pc Ls (.int j :: .ref a :: st)) rfl rfl (hb hby hd) _ r) (K b (q2.ext O1.2) (q3.ext O1.2))
def OMet (l : Launch) (Z : State) (EL : List (String × Nat)) (n0 : Nat) (y : MethodName) (wc : List Jvm.Cond) (rm : Room) (as' : Array Value) (h0 : Heap) (ws : List Addr) (Q : Option Value → Heap → Prop) : Prop :=
  MetFree l y (head1 wc rm) (fun a U => a = as' ∧ Z.Warmed39 U.vm ∧ U.heap = h0 ∧ CHv Z EL U.vm h0 ∧ ∀ x ∈ ws, Safe Z EL U.vm h0 x) (fun _ _ _ _ _ => True) (fun _ U o U' => OEnd Z EL n0 h0 ws U Q rm.cells rm.slots o U')
theorem own_enter {y : MethodName} {ret : Option FieldType} {wc : List Jvm.Cond} {rm : Room} {as' : Array Value} {Q : Option Value → Heap → Prop} (Ls : Array Slot) (hn : plainFor y = true) (ef : ∀ m, entryFrame m as' mx = mkF m 0 Ls []) (hEL : EW Z a0 EL) (O : Old Z n0 h0) (hlt : ∀ x ∈ ws, n0 ≤ x ∧ x < h0.size)
    (K : ∀ (p : Program) (e : Env) (s : State) (m : MethodId) (below : List Frame) (meth : Method) (c : Code) (T : State), OSt Z EL a0 n0 h0 ws y.cls bytes mx p l e rm s m as' below meth c ws T h0 0 0 → meth.name = y.name → meth.sig.returnType = ret → OGo p.tables e below (OEnd Z EL n0 h0 ws s Q rm.cells rm.slots) T (mkF m 0 Ls [])) :
    OMet l Z EL n0 y (Jvm.Cond.code y bytes mx ret :: wc) rm as' h0 ws Q := by
  refine MetFree.of_bodySF hn hisR ?_
  intro p e s m args below meth c s₁ Bd hml hP _
  obtain ⟨rfl, hZ, hh, hC, hS⟩ := hP
  have Y : Stand p l e rm (s.setVm s.vm) m args below meth c s₁ [] 0 0 := Stand.of_body Bd
  have hown := findClass_of_methodNamed Bd.named
  have e0 : s₁.heap = h0 := by rw [← hh, Bd.state]; rfl
  obtain ⟨t, o, g1, g2⟩ := K p e s m below meth c s₁ ⟨Bd.exec, Bd.bytes, hml, e0, Bd.notSynchronized, s.vm, [], Y, hh, O, Keep.refl _ _, ⟨_, (State.WarmedH.refl s).since _, Nat.le_refl _⟩, hZ, hown, hEL, by rw [hh]; exact CHr.refl hC, fun _ => rfl, Fr.nil _, fun x hx => ⟨(hlt x hx).1, (hlt x hx).2, Or.inl hx, hS x hx⟩⟩ (name_of_methodNamed Bd.named Bd.method).1 Bd.returns
  exact ⟨t, o, castTop (ef m) g1, g2⟩
theorem own_leave (X : OSt Z EL a0 n0 h0 ws own bytes mx p l e R s m args below meth c sv T h k n) {v : Option Value} {Q : Option Value → Heap → Prop} {k' n' : Nat} (hv : meth.sig.returnType = none → v = none) (hk : k ≤ k') (hn : n ≤ n') (hQ : Q v h) :
    ∃ fs, (∀ (f : JFrame) (acts : List Action), f.method = m → f.locked = none → f.entered = [] → (doReturn e (T.setTop f) acts v).1 = T.setFrames fs) ∧ (T.setFrames fs).status = .running ∧ Ended (T.setFrames fs) below (.returned v) ∧ OEnd Z EL n0 h0 ws s Q k' n' (.returned v) (T.setFrames fs) := by
  obtain ⟨hx, hby, hml, eT, hlk, vm0, locs, Y, b1, b2, b3, ⟨k0, b4, b4'⟩, b5, b6, b7, b8, b9, b10, b11⟩ := X.more hk hn
  obtain ⟨fs, h1, h2, h3, hW, hs⟩ := Y.leave hv hlk
  have C := CHv.at Y b5 b7 b8.1
  obtain ⟨q1, q2, q3⟩ := b4.ended (U := T.setFrames fs) hW (by show k0 ≤ T.heap.size; rw [eT]; exact b4') hs
  refine ⟨fs, h1, h2, h3, v, locs, rfl, ⟨b10, by show Keep h0 T.heap ws; rw [eT]; exact b3, by show Q v T.heap; rw [eT]; exact hQ⟩, by show CHr Z EL s.vm s.heap T.vm T.heap; rw [eT]; exact b8.trans C, ⟨⟨v, rfl⟩, q1, q2, q3⟩, fun hnil => ?_⟩
  have := b9 hnil
  subst this
  exact ⟨⟨v, rfl⟩, hW, hs⟩
theorem own_retV (X : OSt Z EL a0 n0 h0 ws own bytes mx p l e R s m args below meth c sv T h k n) {Q : Option Value → Heap → Prop} {k' n' : Nat} (hd : decode bytes pc = .ok (.return_, 1)) (hret : meth.sig.returnType = none) (hk : k ≤ k') (hn : n ≤ n') (hQ : Q none h) : OGo p.tables e below (OEnd Z EL n0 h0 ws s Q k' n') T (mkF m pc Ls []) := by
  obtain ⟨fs, h1, h2, h3, h4⟩ := own_leave X (fun _ => rfl) hk hn hQ
  have X' := X
  obtain ⟨hx, hby, hml, eT, hlk, vm0, locs, Y, -⟩ := X'
  exact ⟨_, _, Y.returnOut hx hret (hb hby hd) h1, h2, h3, h4⟩
theorem own_ret (X : OSt Z EL a0 n0 h0 ws own bytes mx p l e R s m args below meth c sv T h k n) {Q : Option Value → Heap → Prop} {k' n' : Nat} {t : FieldType} {w : Value} {i : Instr} (hd : decode bytes pc = .ok (i, 1)) (hret : meth.sig.returnType = some t) (hnw : narrow t w = w)
    (hi : (i = .ireturn ∧ (t = .int ∨ t = .boolean ∨ t = .byte ∨ t = .char ∨ t = .short) ∧ ∃ z, w = .int z) ∨ (i = .lreturn ∧ t = .long ∧ ∃ z, w = .long z) ∨ (i = .dreturn ∧ t = .double ∧ ∃ z, w = .double z) ∨ (i = .freturn ∧ t = .float ∧ ∃ z, w = .float z) ∨ (i = .areturn ∧ t.isReference = true ∧ w.isRef = true))
    (hk : k ≤ k') (hn : n ≤ n') (hQ : Q (some w) h) : OGo p.tables e below (OEnd Z EL n0 h0 ws s Q k' n') T (mkF m pc Ls (w :: st)) := by
  obtain ⟨fs, h1, h2, h3, h4⟩ := own_leave X (fun q => by rw [hret] at q; cases q) hk hn hQ
  have X' := X
  obtain ⟨hx, hby, hml, eT, hlk, vm0, locs, Y, -⟩ := X'
  exact ⟨_, _, retOut Y hx hret hnw hi (hb hby hd) h1, h2, h3, h4⟩
theorem own_retI (X : OSt Z EL a0 n0 h0 ws own bytes mx p l e R s m args below meth c sv T h k n) {Q : Option Value → Heap → Prop} {k' n' : Nat} {z : Int32} (hd : decode bytes pc = .ok (.ireturn, 1)) (hret : meth.sig.returnType = some .int) (hk : k ≤ k') (hn : n ≤ n') (hQ : Q (some (.int z)) h) : OGo p.tables e below (OEnd Z EL n0 h0 ws s Q k' n') T (mkF m pc Ls (.int z :: st)) :=
  own_ret X hd hret rfl (Or.inl ⟨rfl, Or.inl rfl, z, rfl⟩) hk hn hQ
theorem own_retZ (X : OSt Z EL a0 n0 h0 ws own bytes mx p l e R s m args below meth c sv T h k n) {Q : Option Value → Heap → Prop} {k' n' : Nat} {z : Int32} (hd : decode bytes pc = .ok (.ireturn, 1)) (hret : meth.sig.returnType = some .boolean) (hz : narrow .boolean (.int z) = .int z) (hk : k ≤ k') (hn : n ≤ n') (hQ : Q (some (.int z)) h) : OGo p.tables e below (OEnd Z EL n0 h0 ws s Q k' n') T (mkF m pc Ls (.int z :: st)) :=
  own_ret X hd hret hz (Or.inl ⟨rfl, Or.inr (Or.inl rfl), z, rfl⟩) hk hn hQ
theorem own_retC (X : OSt Z EL a0 n0 h0 ws own bytes mx p l e R s m args below meth c sv T h k n) {Q : Option Value → Heap → Prop} {k' n' : Nat} {z : Int32} (hd : decode bytes pc = .ok (.ireturn, 1)) (hret : meth.sig.returnType = some .char) (hz : narrow .char (.int z) = .int z) (hk : k ≤ k') (hn : n ≤ n') (hQ : Q (some (.int z)) h) : OGo p.tables e below (OEnd Z EL n0 h0 ws s Q k' n') T (mkF m pc Ls (.int z :: st)) :=
  own_ret X hd hret hz (Or.inl ⟨rfl, Or.inr (Or.inr (Or.inr (Or.inl rfl))), z, rfl⟩) hk hn hQ
theorem own_retY (X : OSt Z EL a0 n0 h0 ws own bytes mx p l e R s m args below meth c sv T h k n) {Q : Option Value → Heap → Prop} {k' n' : Nat} {z : Int32} (hd : decode bytes pc = .ok (.ireturn, 1)) (hret : meth.sig.returnType = some .byte) (hz : narrow .byte (.int z) = .int z) (hk : k ≤ k') (hn : n ≤ n') (hQ : Q (some (.int z)) h) : OGo p.tables e below (OEnd Z EL n0 h0 ws s Q k' n') T (mkF m pc Ls (.int z :: st)) :=
  own_ret X hd hret hz (Or.inl ⟨rfl, Or.inr (Or.inr (Or.inl rfl)), z, rfl⟩) hk hn hQ
theorem own_retL (X : OSt Z EL a0 n0 h0 ws own bytes mx p l e R s m args below meth c sv T h k n) {Q : Option Value → Heap → Prop} {k' n' : Nat} {z : Int64} (hd : decode bytes pc = .ok (.lreturn, 1)) (hret : meth.sig.returnType = some .long) (hk : k ≤ k') (hn : n ≤ n') (hQ : Q (some (.long z)) h) : OGo p.tables e below (OEnd Z EL n0 h0 ws s Q k' n') T (mkF m pc Ls (.long z :: st)) :=
  own_ret X hd hret rfl (Or.inr (Or.inl ⟨rfl, rfl, z, rfl⟩)) hk hn hQ
theorem own_narR {t : FieldType} {w : Value} (ht : t.isReference = true) (hw : w.isRef = true) : narrow t w = w := by
  rcases ref_cases hw with rfl | ⟨a, rfl⟩ <;> cases t <;> first | rfl | cases ht
theorem own_retA (X : OSt Z EL a0 n0 h0 ws own bytes mx p l e R s m args below meth c sv T h k n) {Q : Option Value → Heap → Prop} {k' n' : Nat} {t : FieldType} {w : Value} (hd : decode bytes pc = .ok (.areturn, 1)) (hret : meth.sig.returnType = some t) (ht : t.isReference = true) (hw : w.isRef = true) (hk : k ≤ k') (hn : n ≤ n') (hQ : Q (some w) h) : OGo p.tables e below (OEnd Z EL n0 h0 ws s Q k' n') T (mkF m pc Ls (w :: st)) :=
  own_ret X hd hret (own_narR ht hw) (Or.inr (Or.inr (Or.inr (Or.inr ⟨rfl, ht, hw⟩)))) hk hn hQ
theorem own_payN {vm0 : Vm} {y : MethodName} {maxL : Nat} {ret : Option FieldType} {rm : Room} {len W : Nat} {as' : Array Value} {ws' : List Addr} {Q : Option Value → Heap → Prop} {bc : ByteArray} (hnil : EL = []) (hM : OMet l Z EL n0 y [Jvm.Cond.code y bc maxL ret] rm as' h ws' Q) (hZ : Z.Warmed39 vm0) (wc : (Cond.code y bc maxL ret).before a0 Z = true) (wz : (Cond.initialized y.cls).before a0 Z = true) (hf : rm.frames + 1 ≤ R.frames) (hl : W + (maxL + 11) + rm.locals ≤ R.locals) (hEL : EW Z a0 EL) (H : CHv Z EL vm0 h) (hS : ∀ x ∈ ws', x < h.size ∧ Safe Z EL vm0 h x) :
    Back l R p e below (s.setVm vm0) args y len W (fun A a => a = as' ∧ A.U.heap = h ∧ A.cells + rm.cells ≤ R.cells ∧ A.slots + rm.slots ≤ R.slots)
      (fun A _ v B => ∃ L, (Fr n0 L ∧ Keep h B.U.heap ws' ∧ Q v B.U.heap) ∧ B.locs = A.locs ++ L ∧ B.cells = A.cells + rm.cells ∧ B.slots = A.slots + rm.slots) :=
  Back.of_free (bytes := bc) (maxL := maxL) (ret := ret) (E := fun _ _ o t L k n => k = rm.cells ∧ n = rm.slots ∧ ∃ v, o = .returned v ∧ (Fr n0 L ∧ Keep h t.heap ws' ∧ Q v t.heap)) hM hf hl
    (fun m meth c A a Y hp => have hU : Z.Warmed39 A.U.vm := wtrans (s := s.setVm vm0) hZ Y.warmed
      ⟨by show (Cond.and _ .tt).before a A.U = true; rw [Cond.before_and, mv hU wc]; rfl, mv hU wc, mv hU wz, hp.2.2.1, hp.2.2.2⟩)
    (fun m meth c A a g mk Y hp => ⟨hp.1, wtrans (s := s.setVm vm0) hZ Y.warmed, hp.2.1, (CHv.at Y hZ hEL H).1, fun x hx => (CHv.at Y hZ hEL H).safe (hS x hx).1 (hS x hx).2⟩) (fun _ _ _ _ _ _ _ _ _ => trivial)
    (fun _ _ _ _ ⟨v, L, h1, h2, _, _, h3⟩ => ⟨L, _, _, h3 hnil, rfl, rfl, v, h1, h2⟩)
    (fun m meth c A a g mk v t L k n Y hp _ _ ⟨e1, e2, v', e3, e4⟩ => by cases e3; subst e1 e2; exact ⟨L, e4, rfl, rfl, rfl⟩)
theorem own_payW {vm0 : Vm} {y : MethodName} {maxL : Nat} {ret : Option FieldType} {rm : Room} {len W : Nat} {as' : Array Value} {ws' : List Addr} {Q : Option Value → Heap → Prop} {bc : ByteArray} (hM : OMet l Z EL n0 y [Jvm.Cond.code y bc maxL ret] rm as' h ws' Q) (hZ : Z.Warmed39 vm0) (wc : (Cond.code y bc maxL ret).before a0 Z = true) (wz : (Cond.initialized y.cls).before a0 Z = true) (hf : rm.frames + 1 ≤ R.frames) (hl : W + (maxL + 11) + rm.locals ≤ R.locals) (hEL : EW Z a0 EL) (H : CHv Z EL vm0 h) (hS : ∀ x ∈ ws', x < h.size ∧ Safe Z EL vm0 h x) :
    BackS l R p e below (s.setVm vm0) args y len W (fun A a => a = as' ∧ A.U.heap = h ∧ A.cells + rm.cells ≤ R.cells ∧ A.slots + rm.slots ≤ R.slots)
      (fun A _ v B => ∃ L, (Fr n0 L ∧ Keep h B.U.heap ws' ∧ Q v B.U.heap) ∧ B.locs = A.locs ++ L ∧ B.cells = A.cells + rm.cells ∧ B.slots = A.slots + rm.slots ∧ CHr Z EL vm0 h B.U.vm B.U.heap) :=
  BackS.of_freeW (bytes := bc) (maxL := maxL) (ret := ret) (E := fun _ first o t L k n => k = rm.cells ∧ n = rm.slots ∧ (∃ v, o = .returned v ∧ (Fr n0 L ∧ Keep h t.heap ws' ∧ Q v t.heap)) ∧ CHr Z EL first.vm first.heap t.vm t.heap) hM hf hl
    (fun m meth c A a Y hp => have hU : Z.Warmed39 A.U.vm := wtrans (s := s.setVm vm0) hZ Y.warmed
      ⟨by show (Cond.and _ .tt).before a A.U = true; rw [Cond.before_and, mv hU wc]; rfl, mv hU wc, mv hU wz, hp.2.2.1, hp.2.2.2⟩)
    (fun m meth c A a g mk Y hp => ⟨hp.1, wtrans (s := s.setVm vm0) hZ Y.warmed, hp.2.1, (CHv.at Y hZ hEL H).1, fun x hx => (CHv.at Y hZ hEL H).safe (hS x hx).1 (hS x hx).2⟩) (fun _ _ _ _ _ _ _ _ _ => trivial)
    (fun _ _ _ _ ⟨v, L, h1, h2, h3, h4, _⟩ => ⟨L, _, _, h4, rfl, rfl, ⟨v, h1, h2⟩, h3⟩)
    (fun m meth c A a g mk v t L k n Y hp _ _ ⟨e1, e2, ⟨v', e3, e4⟩, e5⟩ => by
      cases e3; subst e1 e2
      refine ⟨L, e4, rfl, rfl, rfl, (CHv.at Y hZ hEL H).trans ?_⟩
      rw [← hp.2.1]; exact e5)
theorem own_stat (X : OSt Z EL a0 n0 h0 ws own bytes mx p l e R s m args below meth c sv T h k n) (pc' : Nat) {y : MethodName} {index maxL W : Nat} {ret : Option FieldType} {rm : Room} {as' : Array Value} {ws' : List Addr} {Q : Option Value → Heap → Prop} {bc : ByteArray} {argsL rest : List Value} (hd : decode bytes pc = .ok (.invokestatic index, 3)) (hM : OMet l Z EL n0 y [Jvm.Cond.code y bc maxL ret] rm as' h ws' Q) (w1 : (Cond.methodLink own index y).before a0 Z = true) (w2 : (Cond.static y).before a0 Z = true) (wz : (Cond.initialized y.cls).before a0 Z = true) (wc : (Cond.code y bc maxL ret).before a0 Z = true) (hy : y.cls ≠ "java/lang/invoke/MethodHandle" ∧ y.cls ≠ "java/lang/invoke/VarHandle")
    (hlen : ∀ sig, parseMethodDescriptor y.desc = some sig → argsL.length = sig.parameters.length) (hst : st = argsL.reverse ++ rest) (has : argsL.toArray = as') (hsz : Ls.size = mx) (hW : (rest.map fun v => v.category).sum = W) (hf : rm.frames + 1 ≤ R.frames) (hl : W + (maxL + 11) + rm.locals ≤ R.locals) (hc : k + rm.cells ≤ R.cells) (hs : n + rm.slots ≤ R.slots) (hsv : ∀ x ∈ ws', x ∈ sv) (hq : pc' = pc + 3)
    (K : ∀ (T' : State) (h' : Heap) (v : Option Value), OSt Z EL a0 n0 h0 ws own bytes mx p l e R s m args below meth c sv T' h' (k + rm.cells) (n + rm.slots) → Keep h h' ws' → Q v h' → OGo p.tables e below P T' (mkF m pc' Ls (v.toList ++ rest))) : OGo p.tables e below P T (mkF m pc Ls st) := by
  subst hq
  obtain ⟨hx, hby, hml, eT, hlk, vm0, locs, Y, I⟩ := X
  have I0 := I
  obtain ⟨b1, b2, b3, b4, b5, b6, b7, b8, b9, b10, b11⟩ := I0
  have hS : ∀ x ∈ ws', x < h.size ∧ Safe Z EL vm0 h x := fun x hx => ⟨(b11 x (hsv x hx)).2.1, (b11 x (hsv x hx)).2.2.2⟩
  have hZ : Z.Warmed39 (s.setVm vm0).vm := b5
  have hW' : 2 * (mkF m pc Ls st).monitorRoom + (rest.map fun v => v.category).sum ≤ W := by show 2 * 0 + _ ≤ _; rw [hW]; omega
  by_cases hnil : EL = []
  · obtain ⟨v, vm₁, ⟨U, L', k', n'⟩, -, Y', ⟨L, ⟨q1, q2, q3⟩, l1, l2, l3⟩, stp⟩ := Jvm.LawKit.callS Y hx (y := y) (show (s.setVm vm0).vm.findClass own = _ from b6) (mvT hZ w1) (mvT hZ w2) (mvT hZ wz) (mvT hZ wc) hy (own_payN hnil hM b5 wc wz hf hl b7 b8.1 hS) (g := mkF m pc Ls st) rfl (by rw [hml]; exact hsz) (argsL := argsL) (rest := rest) hlen hst hW' (hb hby hd) (fun _ _ => ⟨has, eT, hc, hs⟩)
    dsimp only [Pt.U, Pt.locs, Pt.cells, Pt.slots] at Y' l1 l2 l3 q1 q2 q3 stp
    subst l1 l2 l3
    exact og stp (K U U.heap v ⟨hx, hby, hml, rfl, hlk, vm0, _, Y', I.keep q2 hsv q1⟩ q2 q3)
  · obtain ⟨v, vm₁, ⟨U, L', k', n'⟩, -, Y', S', g', ⟨L, ⟨q1, q2, q3⟩, l1, l2, l3, C⟩, stp⟩ := callSS Y hx (y := y) (show (s.setVm vm0).vm.findClass own = _ from b6) (mvT hZ w1) (mvT hZ w2) (mvT hZ wz) (mvT hZ wc) hy (own_payW hM b5 wc wz hf hl b7 b8.1 hS) (g := mkF m pc Ls st) rfl (by rw [hml]; exact hsz) (argsL := argsL) (rest := rest) hlen hst hW' (hb hby hd) (fun _ _ => ⟨has, eT, hc, hs⟩)
    dsimp only [Pt.U, Pt.locs, Pt.cells, Pt.slots] at Y' l1 l2 l3 q1 q2 q3 stp S' g' C
    subst l1 l2 l3
    exact og (fun _ q => stp.trans q) (K U U.heap v ⟨hx, hby, hml, rfl, hlk, U.vm, _, Y', I.call q2 hsv q1 C S' (fun q => absurd q hnil)⟩ q2 q3)
theorem own_spec (X : OSt Z EL a0 n0 h0 ws own bytes mx p l e R s m args below meth c sv T h k n) (pc' : Nat) {y : MethodName} {index maxL W : Nat} {rm : Room} {as' : Array Value} {ws' : List Addr} {Q : Option Value → Heap → Prop} {bc : ByteArray} {a : Addr} {argsL rest : List Value} (hd : decode bytes pc = .ok (.invokespecial index, 3)) (hy1 : y.name = "<init>") (hM : OMet l Z EL n0 y [Jvm.Cond.code y bc maxL none] rm as' h ws' Q) (w1 : (Cond.methodLink own index y).before a0 Z = true) (w2 : (Cond.instanceMethod y).before a0 Z = true) (wz : (Cond.initialized y.cls).before a0 Z = true) (wc : (Cond.code y bc maxL none).before a0 Z = true) (hy : y.cls ≠ "java/lang/invoke/MethodHandle" ∧ y.cls ≠ "java/lang/invoke/VarHandle")
    (hlen : ∀ sig, parseMethodDescriptor y.desc = some sig → argsL.length = sig.parameters.length) (hst : st = argsL.reverse ++ .ref a :: rest) (has : (.ref a :: argsL).toArray = as') (hsz : Ls.size = mx) (hW : (rest.map fun v => v.category).sum = W) (hf : rm.frames + 1 ≤ R.frames) (hl : W + (maxL + 11) + rm.locals ≤ R.locals) (hc : k + rm.cells ≤ R.cells) (hs : n + rm.slots ≤ R.slots) (hsv : ∀ x ∈ ws', x ∈ sv) (hq : pc' = pc + 3)
    (K : ∀ (T' : State) (h' : Heap) (v : Option Value), OSt Z EL a0 n0 h0 ws own bytes mx p l e R s m args below meth c sv T' h' (k + rm.cells) (n + rm.slots) → Keep h h' ws' → Q v h' → OGo p.tables e below P T' (mkF m pc' Ls (v.toList ++ rest))) : OGo p.tables e below P T (mkF m pc Ls st) := by
  subst hq
  obtain ⟨hx, hby, hml, eT, hlk, vm0, locs, Y, I⟩ := X
  have I0 := I
  obtain ⟨b1, b2, b3, b4, b5, b6, b7, b8, b9, b10, b11⟩ := I0
  have hS : ∀ x ∈ ws', x < h.size ∧ Safe Z EL vm0 h x := fun x hx => ⟨(b11 x (hsv x hx)).2.1, (b11 x (hsv x hx)).2.2.2⟩
  have hZ : Z.Warmed39 (s.setVm vm0).vm := b5
  have hW' : 2 * (mkF m pc Ls st).monitorRoom + (rest.map fun v => v.category).sum ≤ W := by show 2 * 0 + _ ≤ _; rw [hW]; omega
  by_cases hnil : EL = []
  · obtain ⟨v, vm₁, ⟨U, L', k', n'⟩, -, Y', ⟨L, ⟨q1, q2, q3⟩, l1, l2, l3⟩, stp⟩ := Y.specialBack hx (y := y) hy1 (show (s.setVm vm0).vm.findClass own = _ from b6) (mvT hZ w1) (mvT hZ w2) (mvT hZ wc) hy (own_payN hnil hM b5 wc wz hf hl b7 b8.1 hS) (g := mkF m pc Ls st) rfl (by rw [hml]; exact hsz) (Steps.refl _) (a := a) (argsL := argsL) (rest := rest) hlen hst hW' (hb hby hd) (fun _ _ => ⟨has, eT, hc, hs⟩)
    dsimp only [Pt.U, Pt.locs, Pt.cells, Pt.slots] at Y' l1 l2 l3 q1 q2 q3 stp
    subst l1 l2 l3
    exact og (fun _ q => stp.trans q) (K U U.heap v ⟨hx, hby, hml, rfl, hlk, vm0, _, Y', I.keep q2 hsv q1⟩ q2 q3)
  · obtain ⟨v, vm₁, ⟨U, L', k', n'⟩, -, Y', S', g', ⟨L, ⟨q1, q2, q3⟩, l1, l2, l3, C⟩, stp⟩ := Y.specialBackS hx (y := y) hy1 (show (s.setVm vm0).vm.findClass own = _ from b6) (mvT hZ w1) (mvT hZ w2) (mvT hZ wc) hy (own_payW hM b5 wc wz hf hl b7 b8.1 hS) (g := mkF m pc Ls st) rfl (by rw [hml]; exact hsz) (Steps.refl _) (a := a) (argsL := argsL) (rest := rest) hlen hst hW' (hb hby hd) (fun _ _ => ⟨has, eT, hc, hs⟩)
    dsimp only [Pt.U, Pt.locs, Pt.cells, Pt.slots] at Y' l1 l2 l3 q1 q2 q3 stp S' g' C
    subst l1 l2 l3
    exact og (fun _ q => stp.trans q) (K U U.heap v ⟨hx, hby, hml, rfl, hlk, U.vm, _, Y', I.call q2 hsv q1 C S' (fun q => absurd q hnil)⟩ q2 q3)
theorem own_virt (X : OSt Z EL a0 n0 h0 ws own bytes mx p l e R s m args below meth c sv T h k n) (pc' : Nat) {y z : MethodName} {C : String} {index maxL W : Nat} {ret : Option FieldType} {rm : Room} {as' : Array Value} {ws' : List Addr} {Q : Option Value → Heap → Prop} {bc : ByteArray} {a : Addr} {argsL rest : List Value} (hd : decode bytes pc = .ok (.invokevirtual index, 3)) (E : Exa Z h a C) (hnf : ∀ vm0, Z.Warmed39 (s.setVm vm0).vm → NotFace (s.setVm vm0) y) (hM : OMet l Z EL n0 z [Jvm.Cond.code z bc maxL ret] rm as' h ws' Q) (w1 : (Cond.methodLink own index y).before a0 Z = true) (w2 : (Cond.declares y).before a0 Z = true) (w3 : (Cond.selects C y z).before a0 Z = true) (w4 : (Cond.instanceMethod z).before a0 Z = true) (wz : (Cond.initialized z.cls).before a0 Z = true) (wc : (Cond.code z bc maxL ret).before a0 Z = true) (hy : y.cls ≠ "java/lang/invoke/MethodHandle" ∧ y.cls ≠ "java/lang/invoke/VarHandle")
    (hlen : ∀ sig, parseMethodDescriptor y.desc = some sig → argsL.length = sig.parameters.length) (hst : st = argsL.reverse ++ .ref a :: rest) (has : (.ref a :: argsL).toArray = as') (hsz : Ls.size = mx) (hW : (rest.map fun v => v.category).sum = W) (hf : rm.frames + 1 ≤ R.frames) (hl : W + (maxL + 11) + rm.locals ≤ R.locals) (hc : k + rm.cells ≤ R.cells) (hs : n + rm.slots ≤ R.slots) (hsv : ∀ x ∈ ws', x ∈ sv) (hq : pc' = pc + 3)
    (K : ∀ (T' : State) (h' : Heap) (v : Option Value), OSt Z EL a0 n0 h0 ws own bytes mx p l e R s m args below meth c sv T' h' (k + rm.cells) (n + rm.slots) → Keep h h' ws' → Q v h' → OGo p.tables e below P T' (mkF m pc' Ls (v.toList ++ rest))) : OGo p.tables e below P T (mkF m pc Ls st) := by
  subst hq
  obtain ⟨hx, hby, hml, eT, hlk, vm0, locs, Y, I⟩ := X
  have I0 := I
  obtain ⟨b1, b2, b3, b4, b5, b6, b7, b8, b9, b10, b11⟩ := I0
  have hS : ∀ x ∈ ws', x < h.size ∧ Safe Z EL vm0 h x := fun x hx => ⟨(b11 x (hsv x hx)).2.1, (b11 x (hsv x hx)).2.2.2⟩
  have hZ : Z.Warmed39 (s.setVm vm0).vm := b5
  have hW' : 2 * (mkF m pc Ls st).monitorRoom + (rest.map fun v => v.category).sum ≤ W := by show 2 * 0 + _ ≤ _; rw [hW]; omega
  obtain ⟨cq, kq, qa, qb, qc⟩ := isOf (s := s.setVm vm0) hZ eT E
  by_cases hnil : EL = []
  · obtain ⟨v, vm₁, ⟨U, L', k', n'⟩, -, Y', ⟨L, ⟨q1, q2, q3⟩, l1, l2, l3⟩, stp⟩ := Y.virtualBack hx (y := y) (z := z) (show (s.setVm vm0).vm.findClass own = _ from b6) (mvT hZ w1) (mvT hZ w2) (hnf vm0 hZ) (mvT hZ w3) (mvT hZ w4) hy (own_payN hnil hM b5 wc wz hf hl b7 b8.1 hS) qa qc (g := mkF m pc Ls st) rfl (by rw [hml]; exact hsz) (Steps.refl _) (argsL := argsL) (rest := rest) hlen hst hW' (hb hby hd) (fun _ _ => ⟨has, eT, hc, hs⟩)
    dsimp only [Pt.U, Pt.locs, Pt.cells, Pt.slots] at Y' l1 l2 l3 q1 q2 q3 stp
    subst l1 l2 l3
    exact og (fun _ q => stp.trans q) (K U U.heap v ⟨hx, hby, hml, rfl, hlk, vm0, _, Y', I.keep q2 hsv q1⟩ q2 q3)
  · obtain ⟨v, vm₁, ⟨U, L', k', n'⟩, -, Y', S', g', ⟨L, ⟨q1, q2, q3⟩, l1, l2, l3, C⟩, stp⟩ := Y.virtualBackS hx (y := y) (z := z) (show (s.setVm vm0).vm.findClass own = _ from b6) (mvT hZ w1) (mvT hZ w2) (hnf vm0 hZ) (mvT hZ w3) (mvT hZ w4) hy (own_payW hM b5 wc wz hf hl b7 b8.1 hS) qa qc (g := mkF m pc Ls st) rfl (by rw [hml]; exact hsz) (Steps.refl _) (argsL := argsL) (rest := rest) hlen hst hW' (hb hby hd) (fun _ _ => ⟨has, eT, hc, hs⟩)
    dsimp only [Pt.U, Pt.locs, Pt.cells, Pt.slots] at Y' l1 l2 l3 q1 q2 q3 stp S' g' C
    subst l1 l2 l3
    exact og (fun _ q => stp.trans q) (K U U.heap v ⟨hx, hby, hml, rfl, hlk, U.vm, _, Y', I.call q2 hsv q1 C S' (fun q => absurd q hnil)⟩ q2 q3)
theorem own_priv (X : OSt Z EL a0 n0 h0 ws own bytes mx p l e R s m args below meth c sv T h k n) (pc' : Nat) {y : MethodName} {C : String} {index maxL W : Nat} {ret : Option FieldType} {rm : Room} {as' : Array Value} {ws' : List Addr} {Q : Option Value → Heap → Prop} {bc : ByteArray} {a : Addr} {argsL rest : List Value} (hd : decode bytes pc = .ok (.invokevirtual index, 3)) (E : Exa Z h a C) (hM : OMet l Z EL n0 y [Jvm.Cond.code y bc maxL ret] rm as' h ws' Q) (w1 : (Cond.methodLink own index y).before a0 Z = true) (w2 : (Cond.instanceMethod y).before a0 Z = true) (w3 : (Cond.selects y.cls y y).before a0 Z = true) (w4 : (Cond.privateMethod y).before a0 Z = true) (wz : (Cond.initialized y.cls).before a0 Z = true) (wc : (Cond.code y bc maxL ret).before a0 Z = true) (hy : y.cls ≠ "java/lang/invoke/MethodHandle" ∧ y.cls ≠ "java/lang/invoke/VarHandle")
    (hlen : ∀ sig, parseMethodDescriptor y.desc = some sig → argsL.length = sig.parameters.length) (hst : st = argsL.reverse ++ .ref a :: rest) (has : (.ref a :: argsL).toArray = as') (hsz : Ls.size = mx) (hW : (rest.map fun v => v.category).sum = W) (hf : rm.frames + 1 ≤ R.frames) (hl : W + (maxL + 11) + rm.locals ≤ R.locals) (hc : k + rm.cells ≤ R.cells) (hs : n + rm.slots ≤ R.slots) (hsv : ∀ x ∈ ws', x ∈ sv) (hq : pc' = pc + 3)
    (K : ∀ (T' : State) (h' : Heap) (v : Option Value), OSt Z EL a0 n0 h0 ws own bytes mx p l e R s m args below meth c sv T' h' (k + rm.cells) (n + rm.slots) → Keep h h' ws' → Q v h' → OGo p.tables e below P T' (mkF m pc' Ls (v.toList ++ rest))) : OGo p.tables e below P T (mkF m pc Ls st) := by
  subst hq
  obtain ⟨hx, hby, hml, eT, hlk, vm0, locs, Y, I⟩ := X
  have I0 := I
  obtain ⟨b1, b2, b3, b4, b5, b6, b7, b8, b9, b10, b11⟩ := I0
  have hS : ∀ x ∈ ws', x < h.size ∧ Safe Z EL vm0 h x := fun x hx => ⟨(b11 x (hsv x hx)).2.1, (b11 x (hsv x hx)).2.2.2⟩
  have hZ : Z.Warmed39 (s.setVm vm0).vm := b5
  have hW' : 2 * (mkF m pc Ls st).monitorRoom + (rest.map fun v => v.category).sum ≤ W := by show 2 * 0 + _ ≤ _; rw [hW]; omega
  obtain ⟨cq, q0, q0'⟩ := E.cell
  by_cases hnil : EL = []
  · obtain ⟨v, vm₁, ⟨U, L', k', n'⟩, -, Y', ⟨L, ⟨q1, q2, q3⟩, l1, l2, l3⟩, stp⟩ := Y.privateBack hx (y := y) (show (s.setVm vm0).vm.findClass own = _ from b6) (mvT hZ w1) (mvT hZ w2) (mvT hZ w3) (Cond.privateMethod_at (mvP hZ w4 (args := #[]))) (mvT hZ wc) hy (own_payN hnil hM b5 wc wz hf hl b7 b8.1 hS) (g := mkF m pc Ls st) rfl (by rw [hml]; exact hsz) (Steps.refl _) (a := a) (by rw [eT]; exact q0) q0' (argsL := argsL) (rest := rest) hlen hst hW' (hb hby hd) (fun _ _ => ⟨has, eT, hc, hs⟩)
    dsimp only [Pt.U, Pt.locs, Pt.cells, Pt.slots] at Y' l1 l2 l3 q1 q2 q3 stp
    subst l1 l2 l3
    exact og (fun _ q => stp.trans q) (K U U.heap v ⟨hx, hby, hml, rfl, hlk, vm0, _, Y', I.keep q2 hsv q1⟩ q2 q3)
  · obtain ⟨v, vm₁, ⟨U, L', k', n'⟩, -, Y', S', g', ⟨L, ⟨q1, q2, q3⟩, l1, l2, l3, C⟩, stp⟩ := Y.privateBackS hx (y := y) (show (s.setVm vm0).vm.findClass own = _ from b6) (mvT hZ w1) (mvT hZ w2) (mvT hZ w3) (Cond.privateMethod_at (mvP hZ w4 (args := #[]))) (mvT hZ wc) hy (own_payW hM b5 wc wz hf hl b7 b8.1 hS) (g := mkF m pc Ls st) rfl (by rw [hml]; exact hsz) (Steps.refl _) (a := a) (by rw [eT]; exact q0) q0' (argsL := argsL) (rest := rest) hlen hst hW' (hb hby hd) (fun _ _ => ⟨has, eT, hc, hs⟩)
    dsimp only [Pt.U, Pt.locs, Pt.cells, Pt.slots] at Y' l1 l2 l3 q1 q2 q3 stp S' g' C
    subst l1 l2 l3
    exact og (fun _ q => stp.trans q) (K U U.heap v ⟨hx, hby, hml, rfl, hlk, U.vm, _, Y', I.call q2 hsv q1 C S' (fun q => absurd q hnil)⟩ q2 q3)
theorem own_specB (X : OSt Z EL a0 n0 h0 ws own bytes mx p l e R s m args below meth c sv T h k n) (pc' : Nat) {y : MethodName} {index maxL W rc rs : Nat} {as' : Array Value} {ws' : List Addr} {Q : Option Value → Heap → List Loc → Prop} {bc : ByteArray} {a : Addr} {argsL rest : List Value} (hd : decode bytes pc = .ok (.invokespecial index, 3)) (hy1 : y.name = "<init>")
    (hK : ∀ vm0, Z.Warmed39 (s.setVm vm0).vm → Back l R p e below (s.setVm vm0) args y 3 W (fun A a => a = as' ∧ A.U.heap = h ∧ A.cells + rc ≤ R.cells ∧ A.slots + rs ≤ R.slots) (fun A _ v B => ∃ L, Q v B.U.heap L ∧ B.locs = A.locs ++ L ∧ B.cells = A.cells + rc ∧ B.slots = A.slots + rs)) (hQ : ∀ v h' L, Q v h' L → Fr n0 L ∧ Keep h h' ws')
    (w1 : (Cond.methodLink own index y).before a0 Z = true) (w2 : (Cond.instanceMethod y).before a0 Z = true) (wc : (Cond.code y bc maxL none).before a0 Z = true) (hy : y.cls ≠ "java/lang/invoke/MethodHandle" ∧ y.cls ≠ "java/lang/invoke/VarHandle")
    (hlen : ∀ sig, parseMethodDescriptor y.desc = some sig → argsL.length = sig.parameters.length) (hst : st = argsL.reverse ++ .ref a :: rest) (has : (.ref a :: argsL).toArray = as') (hsz : Ls.size = mx) (hW : (rest.map fun v => v.category).sum = W) (hc : k + rc ≤ R.cells) (hs : n + rs ≤ R.slots) (hsv : ∀ x ∈ ws', x ∈ sv) (hq : pc' = pc + 3)
    (K : ∀ (T' : State) (h' : Heap) (v : Option Value) (L : List Loc), OSt Z EL a0 n0 h0 ws own bytes mx p l e R s m args below meth c sv T' h' (k + rc) (n + rs) → Keep h h' ws' → Q v h' L → OGo p.tables e below P T' (mkF m pc' Ls (v.toList ++ rest))) : OGo p.tables e below P T (mkF m pc Ls st) := by
  subst hq
  obtain ⟨hx, hby, hml, eT, hlk, vm0, locs, Y, I⟩ := X
  have hZ : Z.Warmed39 (s.setVm vm0).vm := I.2.2.2.2.1
  have hW' : 2 * (mkF m pc Ls st).monitorRoom + (rest.map fun v => v.category).sum ≤ W := by show 2 * 0 + _ ≤ _; rw [hW]; omega
  obtain ⟨v, vm₁, ⟨U, L', k', n'⟩, -, Y', ⟨L, q, l1, l2, l3⟩, stp⟩ := Y.specialBack hx (y := y) hy1 (show (s.setVm vm0).vm.findClass own = _ from I.2.2.2.2.2.1) (mvT hZ w1) (mvT hZ w2) (mvT hZ wc) hy (hK vm0 hZ) (g := mkF m pc Ls st) rfl (by rw [hml]; exact hsz) (Steps.refl _) (a := a) (argsL := argsL) (rest := rest) hlen hst hW' (hb hby hd) (fun _ _ => ⟨has, eT, hc, hs⟩)
  dsimp only [Pt.U, Pt.locs, Pt.cells, Pt.slots] at Y' l1 l2 l3 q stp
  subst l1 l2 l3
  exact og (fun _ q => stp.trans q) (K U U.heap v L ⟨hx, hby, hml, rfl, hlk, vm0, _, Y', I.keep (hQ _ _ _ q).2 hsv (hQ _ _ _ q).1⟩ (hQ _ _ _ q).2 q)
theorem own_virtB (X : OSt Z EL a0 n0 h0 ws own bytes mx p l e R s m args below meth c sv T h k n) (pc' : Nat) {y z : MethodName} {C : String} {index W rc rs : Nat} {as' : Array Value} {ws' : List Addr} {Q : Option Value → Heap → List Loc → Prop} {a : Addr} {argsL rest : List Value} (hd : decode bytes pc = .ok (.invokevirtual index, 3)) (E : Exa Z h a C) (hnf : ∀ vm0, Z.Warmed39 (s.setVm vm0).vm → NotFace (s.setVm vm0) y)
    (hK : ∀ vm0, Z.Warmed39 (s.setVm vm0).vm → Back l R p e below (s.setVm vm0) args z 3 W (fun A a => a = as' ∧ A.U.heap = h ∧ A.cells + rc ≤ R.cells ∧ A.slots + rs ≤ R.slots) (fun A _ v B => ∃ L, Q v B.U.heap L ∧ B.locs = A.locs ++ L ∧ B.cells = A.cells + rc ∧ B.slots = A.slots + rs)) (hQ : ∀ v h' L, Q v h' L → Fr n0 L ∧ Keep h h' ws')
    (w1 : (Cond.methodLink own index y).before a0 Z = true) (w2 : (Cond.declares y).before a0 Z = true) (w3 : (Cond.selects C y z).before a0 Z = true) (w4 : (Cond.instanceMethod z).before a0 Z = true) (hy : y.cls ≠ "java/lang/invoke/MethodHandle" ∧ y.cls ≠ "java/lang/invoke/VarHandle")
    (hlen : ∀ sig, parseMethodDescriptor y.desc = some sig → argsL.length = sig.parameters.length) (hst : st = argsL.reverse ++ .ref a :: rest) (has : (.ref a :: argsL).toArray = as') (hsz : Ls.size = mx) (hW : (rest.map fun v => v.category).sum = W) (hc : k + rc ≤ R.cells) (hs : n + rs ≤ R.slots) (hsv : ∀ x ∈ ws', x ∈ sv) (hq : pc' = pc + 3)
    (K : ∀ (T' : State) (h' : Heap) (v : Option Value) (L : List Loc), OSt Z EL a0 n0 h0 ws own bytes mx p l e R s m args below meth c sv T' h' (k + rc) (n + rs) → Keep h h' ws' → Q v h' L → OGo p.tables e below P T' (mkF m pc' Ls (v.toList ++ rest))) : OGo p.tables e below P T (mkF m pc Ls st) := by
  subst hq
  obtain ⟨hx, hby, hml, eT, hlk, vm0, locs, Y, I⟩ := X
  have hZ : Z.Warmed39 (s.setVm vm0).vm := I.2.2.2.2.1
  have hW' : 2 * (mkF m pc Ls st).monitorRoom + (rest.map fun v => v.category).sum ≤ W := by show 2 * 0 + _ ≤ _; rw [hW]; omega
  obtain ⟨cq, kq, qa, qb, qc⟩ := isOf (s := s.setVm vm0) hZ eT E
  obtain ⟨v, vm₁, ⟨U, L', k', n'⟩, -, Y', ⟨L, q, l1, l2, l3⟩, stp⟩ := Y.virtualBack hx (y := y) (z := z) (show (s.setVm vm0).vm.findClass own = _ from I.2.2.2.2.2.1) (mvT hZ w1) (mvT hZ w2) (hnf vm0 hZ) (mvT hZ w3) (mvT hZ w4) hy (hK vm0 hZ) qa qc (g := mkF m pc Ls st) rfl (by rw [hml]; exact hsz) (Steps.refl _) (argsL := argsL) (rest := rest) hlen hst hW' (hb hby hd) (fun _ _ => ⟨has, eT, hc, hs⟩)
  dsimp only [Pt.U, Pt.locs, Pt.cells, Pt.slots] at Y' l1 l2 l3 q stp
  subst l1 l2 l3
  exact og (fun _ q => stp.trans q) (K U U.heap v L ⟨hx, hby, hml, rfl, hlk, vm0, _, Y', I.keep (hQ _ _ _ q).2 hsv (hQ _ _ _ q).1⟩ (hQ _ _ _ q).2 q)
theorem own_svb (X : OSt Z EL a0 n0 h0 ws own bytes mx p l e R s m args below meth c sv T h k n) {a : Addr} (ha : a ∈ sv) : n0 ≤ a ∧ a < h.size := by
  obtain ⟨-, -, -, -, -, _, _, -, -, -, -, -, -, -, -, -, -, -, q⟩ := X
  exact ⟨(q a ha).1, (q a ha).2.1⟩
theorem own_fitR {t : FieldType} {w : Value} (ht : t.isReference = true) (hw : w.isRef = true) : fits t w = true := by
  rcases ref_cases hw with rfl | ⟨a, rfl⟩ <;> cases t <;> first | rfl | cases ht
theorem own_sto {a y : Addr} {kb : ClassId} {ty : FieldType} {z : Int32} {vs : List Value} {dv : Value} {C : String} (A : Arv Z h a kb ty z vs dv) (O : Ovr Z kb C) (i : Ins Z h y C true) : Sto Z h a (.ref y) := by
  obtain ⟨cl, Ar, q, -⟩ := A
  exact Sto.ofV Ar q O i
theorem own_face (X : OSt Z EL a0 n0 h0 ws own bytes mx p l e R s m args below meth c sv T h k n) (pc' : Nat) {y z : MethodName} {C : String} {index count maxL W : Nat} {ret : Option FieldType} {rm : Room} {as' : Array Value} {ws' : List Addr} {Q : Option Value → Heap → Prop} {bc : ByteArray} {a : Addr} {argsL rest : List Value} (hd : decode bytes pc = .ok (.invokeinterface index count, 5)) (E : Exa Z h a C) (hM : OMet l Z EL n0 z [Jvm.Cond.code z bc maxL ret] rm as' h ws' Q) (w1 : (Cond.methodLink own index y).before a0 Z = true) (w2 : (Cond.declares y).before a0 Z = true) (w3 : (Cond.interfaceMethod y.cls y.cls y.name y.desc).before a0 Z = true) (w4 : (Cond.selects C y z).before a0 Z = true) (w5 : (Cond.instanceMethod z).before a0 Z = true) (w6 : (Cond.publicMethod z).before a0 Z = true) (w7 : (Cond.unhidden C y.name y.desc).before a0 Z = true) (w8 : (Cond.castable C y.cls).before a0 Z = true) (wz : (Cond.initialized z.cls).before a0 Z = true) (wc : (Cond.code z bc maxL ret).before a0 Z = true) (hy : y.cls ≠ "java/lang/invoke/MethodHandle" ∧ y.cls ≠ "java/lang/invoke/VarHandle")
    (hlen : ∀ sig, parseMethodDescriptor y.desc = some sig → argsL.length = sig.parameters.length) (hst : st = argsL.reverse ++ .ref a :: rest) (has : (.ref a :: argsL).toArray = as') (hsz : Ls.size = mx) (hW : (rest.map fun v => v.category).sum = W) (hf : rm.frames + 1 ≤ R.frames) (hl : W + (maxL + 11) + rm.locals ≤ R.locals) (hc : k + rm.cells ≤ R.cells) (hs : n + rm.slots ≤ R.slots) (hsv : ∀ x ∈ ws', x ∈ sv) (hq : pc' = pc + 5)
    (K : ∀ (T' : State) (h' : Heap) (v : Option Value), OSt Z EL a0 n0 h0 ws own bytes mx p l e R s m args below meth c sv T' h' (k + rm.cells) (n + rm.slots) → Keep h h' ws' → Q v h' → OGo p.tables e below P T' (mkF m pc' Ls (v.toList ++ rest))) : OGo p.tables e below P T (mkF m pc Ls st) := by
  subst hq
  obtain ⟨hx, hby, hml, eT, hlk, vm0, locs, Y, I⟩ := X
  have I0 := I
  obtain ⟨b1, b2, b3, b4, b5, b6, b7, b8, b9, b10, b11⟩ := I0
  have hS : ∀ x ∈ ws', x < h.size ∧ Safe Z EL vm0 h x := fun x hx => ⟨(b11 x (hsv x hx)).2.1, (b11 x (hsv x hx)).2.2.2⟩
  have hZ : Z.Warmed39 (s.setVm vm0).vm := b5
  have hW' : 2 * (mkF m pc Ls st).monitorRoom + (rest.map fun v => v.category).sum ≤ W := by show 2 * 0 + _ ≤ _; rw [hW]; omega
  obtain ⟨cq, kq, qa, qb, qc⟩ := isOf (s := s.setVm vm0) hZ eT E
  by_cases hnil : EL = []
  · obtain ⟨v, vm₁, ⟨U, L', k', n'⟩, -, Y', ⟨L, ⟨q1, q2, q3⟩, l1, l2, l3⟩, stp⟩ := Y.interfaceBack hx (xi := y) (y := z) (show (s.setVm vm0).vm.findClass own = _ from b6) (mvT hZ w1 (by first | rfl | decide | simp [Cond.onTables, Cond.keepsFace, Cond.keeps, Cond.steady, Cond.faceAtom, hy.1, hy.2])) (mvT hZ w2 (by first | rfl | decide | simp [Cond.onTables, Cond.keepsFace, Cond.keeps, Cond.steady, Cond.faceAtom, hy.1, hy.2])) (mvT hZ w3 (by first | rfl | decide | simp [Cond.onTables, Cond.keepsFace, Cond.keeps, Cond.steady, Cond.faceAtom, hy.1, hy.2])) (mvT hZ w4 (by first | rfl | decide | simp [Cond.onTables, Cond.keepsFace, Cond.keeps, Cond.steady, Cond.faceAtom, hy.1, hy.2])) (mvT hZ w5 (by first | rfl | decide | simp [Cond.onTables, Cond.keepsFace, Cond.keeps, Cond.steady, Cond.faceAtom, hy.1, hy.2])) (mvT hZ w6 (by first | rfl | decide | simp [Cond.onTables, Cond.keepsFace, Cond.keeps, Cond.steady, Cond.faceAtom, hy.1, hy.2])) (mvT hZ w7 (by first | rfl | decide | simp [Cond.onTables, Cond.keepsFace, Cond.keeps, Cond.steady, Cond.faceAtom, hy.1, hy.2])) (mvT hZ w8 (by first | rfl | decide | simp [Cond.onTables, Cond.keepsFace, Cond.keeps, Cond.steady, Cond.faceAtom, hy.1, hy.2])) hy (own_payN hnil hM b5 wc wz hf hl b7 b8.1 hS) qa qb qc (g := mkF m pc Ls st) rfl (by rw [hml]; exact hsz) (Steps.refl _) (argsL := argsL) (rest := rest) hlen hst hW' (hb hby hd) (fun _ _ => ⟨has, eT, hc, hs⟩)
    dsimp only [Pt.U, Pt.locs, Pt.cells, Pt.slots] at Y' l1 l2 l3 q1 q2 q3 stp
    subst l1 l2 l3
    exact og (fun _ q => stp.trans q) (K U U.heap v ⟨hx, hby, hml, rfl, hlk, vm0, _, Y', I.keep q2 hsv q1⟩ q2 q3)
  · obtain ⟨v, vm₁, ⟨U, L', k', n'⟩, -, Y', S', g', ⟨L, ⟨q1, q2, q3⟩, l1, l2, l3, C⟩, stp⟩ := Y.interfaceBackS hx (xi := y) (y := z) (show (s.setVm vm0).vm.findClass own = _ from b6) (mvT hZ w1 (by first | rfl | decide | simp [Cond.onTables, Cond.keepsFace, Cond.keeps, Cond.steady, Cond.faceAtom, hy.1, hy.2])) (mvT hZ w2 (by first | rfl | decide | simp [Cond.onTables, Cond.keepsFace, Cond.keeps, Cond.steady, Cond.faceAtom, hy.1, hy.2])) (mvT hZ w3 (by first | rfl | decide | simp [Cond.onTables, Cond.keepsFace, Cond.keeps, Cond.steady, Cond.faceAtom, hy.1, hy.2])) (mvT hZ w4 (by first | rfl | decide | simp [Cond.onTables, Cond.keepsFace, Cond.keeps, Cond.steady, Cond.faceAtom, hy.1, hy.2])) (mvT hZ w5 (by first | rfl | decide | simp [Cond.onTables, Cond.keepsFace, Cond.keeps, Cond.steady, Cond.faceAtom, hy.1, hy.2])) (mvT hZ w6 (by first | rfl | decide | simp [Cond.onTables, Cond.keepsFace, Cond.keeps, Cond.steady, Cond.faceAtom, hy.1, hy.2])) (mvT hZ w7 (by first | rfl | decide | simp [Cond.onTables, Cond.keepsFace, Cond.keeps, Cond.steady, Cond.faceAtom, hy.1, hy.2])) (mvT hZ w8 (by first | rfl | decide | simp [Cond.onTables, Cond.keepsFace, Cond.keeps, Cond.steady, Cond.faceAtom, hy.1, hy.2])) hy (own_payW hM b5 wc wz hf hl b7 b8.1 hS) qa qb qc (g := mkF m pc Ls st) rfl (by rw [hml]; exact hsz) (Steps.refl _) (argsL := argsL) (rest := rest) hlen hst hW' (hb hby hd) (fun _ _ => ⟨has, eT, hc, hs⟩)
    dsimp only [Pt.U, Pt.locs, Pt.cells, Pt.slots] at Y' l1 l2 l3 q1 q2 q3 stp S' g' C
    subst l1 l2 l3
    exact og (fun _ q => stp.trans q) (K U U.heap v ⟨hx, hby, hml, rfl, hlk, U.vm, _, Y', I.call q2 hsv q1 C S' (fun q => absurd q hnil)⟩ q2 q3)
theorem own_ldcO (X : OSt Z EL a0 n0 h0 ws own bytes mx p l e R s m args below meth c sv T h k n) (pc' : Nat) {index cap : Nat} {text : String} (hd : decode bytes pc = .ok (.ldc index, 2)) (hne : EL ≠ []) (w : (Cond.stringLink own index text).before a0 Z = true) (wS : ∀ a ∈ Bundle.stringAtoms, a.before a0 Z = true) (hcap : 4 * text.toList.length ≤ cap) (hbig : cap ≤ 536870912) (hc : k + 2 ≤ R.cells) (hl : n + (cap + 4) ≤ R.slots) (hq : pc' = pc + 2)
    (K : ∀ (T' : State) (h' : Heap) (a : Addr), OSt Z EL a0 n0 h0 ws own bytes mx p l e R s m args below meth c sv T' h' (k + 2) (n + (cap + 4)) → Keep h h' [] → OGo p.tables e below P T' (mkF m pc' Ls (.ref a :: st))) : OGo p.tables e below P T (mkF m pc Ls st) := by
  subst hq
  obtain ⟨hx, hby, hml, eT, hlk, vm0, locs, Y, I⟩ := X
  have I0 := I
  obtain ⟨b1, b2, b3, ⟨k0, b4, b4'⟩, b5, b6, b7, b8, b9, b10, b11⟩ := I0
  obtain ⟨a, T', h', k1, Y', e', E, S', hk', hZ', hown', C, -, stp⟩ := ldcOH Y hx b5 b6 w wS eT b4 b4' b7 b8.1 (g := mkF m pc Ls st) rfl (hb hby hd) hcap hbig hc hl
  have hZ' : Z.Warmed39 T'.vm := hZ'
  refine og stp (K T' h' a ⟨hx, hby, hml, e', hlk, T'.vm, locs, Y', b1, b2.ext E, b3.ext E, ⟨k1, S', hk'⟩, hZ', hown', b7, b8.trans C, fun q => absurd q hne, b10, fun x hx => ?_⟩ ((Keep.refl _ _).ext E))
  exact ⟨(b11 x hx).1, Nat.lt_of_lt_of_le (b11 x hx).2.1 E.1, (b11 x hx).2.2.1, C.safe (b11 x hx).2.1 (b11 x hx).2.2.2⟩
theorem own_ldcR (X : OSt Z EL a0 n0 h0 ws own bytes mx p l e R s m args below meth c sv T h k n) (pc' : Nat) {index cap : Nat} {text : String} {vs : List Value} {z : Int32} (hd : decode bytes pc = .ok (.ldc index, 2)) (hmem : (own, index) ∈ EL) (w : (Cond.stringLink own index text).before a0 Z = true) (wS : ∀ a ∈ Bundle.stringAtoms, a.before a0 Z = true) (ht : (∀ c ∈ text.toList, c.toNat < 256) ∧ text.toList.map (fun c => Value.int (Jvm.Lit.byteI c.toNat.toUInt16)) = vs) (hz : ¬ z < 0) (hlz : z.toNatClampNeg = vs.length) (hcap : 4 * text.toList.length ≤ cap) (hbig : cap ≤ 536870912) (hc : k + 2 ≤ R.cells) (hl : n + (cap + 4) ≤ R.slots) (hq : pc' = pc + 2)
    (K : ∀ (T' : State) (h' : Heap) (a b : Addr) (kb : ClassId), OSt Z EL a0 n0 h0 ws own bytes mx p l e R s m args below meth c sv T' h' (k + 2) (n + (cap + 4)) → Keep h h' [] → Exa Z h' a "java/lang/String" → Fld Z h' a "java/lang/String" "coder" "B" (.int 0) → Fld Z h' a "java/lang/String" "value" "[B" (.ref b) → Arv Z h' b kb .byte z vs (.int 0) → (∀ x ∈ sv, x ≠ a ∧ x ≠ b) → OGo p.tables e below P T' (mkF m pc' Ls (.ref a :: st))) : OGo p.tables e below P T (mkF m pc Ls st) := by
  subst hq
  obtain ⟨hx, hby, hml, eT, hlk, vm0, locs, Y, I⟩ := X
  have I0 := I
  obtain ⟨b1, b2, b3, ⟨k0, b4, b4'⟩, b5, b6, b7, b8, b9, b10, b11⟩ := I0
  obtain ⟨a, T', h', k1, b, kb, Y', e', E, S', hk', hZ', hown', r1, r2, r3, r4, r5, r6, C, -, far, stp⟩ := ldcCH Y hx b5 b6 w wS eT b4 b4' b7 hmem b8.1 ht hz hlz (g := mkF m pc Ls st) rfl (hb hby hd) hcap hbig hc hl
  have hZ' : Z.Warmed39 T'.vm := hZ'
  have sf : ∀ x ∈ sv, Safe Z EL T'.vm h' x := fun x hx => C.safe (b11 x hx).2.1 (b11 x hx).2.2.2
  refine og stp (K T' h' a b kb ⟨hx, hby, hml, e', hlk, T'.vm, locs, Y', b1, b2.ext E, b3.ext E, ⟨k1, S', hk'⟩, hZ', hown', b7, b8.trans C, fun q => ?_, b10, fun x hx => ?_⟩ ((Keep.refl _ _).ext E) r1 r2 r3 r4 fun x hx => far x (sf x hx))
  · rw [q] at hmem; cases hmem
  · exact ⟨(b11 x hx).1, Nat.lt_of_lt_of_le (b11 x hx).2.1 E.1, (b11 x hx).2.2.1, sf x hx⟩
theorem own_n0 (X : OSt Z EL a0 n0 h0 ws own bytes mx p l e R s m args below meth c sv T h k n) : n0 ≤ h.size := X.old.1 ▸ X.old.2.1
theorem own_svE (X : OSt Z EL a0 n0 h0 ws own bytes mx p l e R s m args below meth c sv T h k n) {r : Addr} {C : String} (E : Exa Z h r C) (h1 : C ≠ "java/lang/String") (h2 : C ≠ "[B") (hn : n0 ≤ r) (hg : h0.size ≤ r) : OSt Z EL a0 n0 h0 ws own bytes mx p l e R s m args below meth c (r :: sv) T h k n := by
  obtain ⟨a1, a2, a3, a4, a5, vm0, locs, Y, b1, b2, b3, b4, b5, b6, b7, b8, b9, b10, b11⟩ := X
  refine ⟨a1, a2, a3, a4, a5, vm0, locs, Y, b1, b2, b3, b4, b5, b6, b7, b8, b9, b10, fun x hx => ?_⟩
  rcases List.mem_cons.mp hx with rfl | hx
  · exact ⟨hn, E.lt, Or.inr hg, Safe.exa b5.alike E h1 h2⟩
  · exact b11 x hx
theorem own_svA (X : OSt Z EL a0 n0 h0 ws own bytes mx p l e R s m args below meth c sv T h k n) {r : Addr} {kb : ClassId} {ty : FieldType} {z : Int32} {vs : List Value} {dv : Value} (A : Arv Z h r kb ty z vs dv) (h1 : ty ≠ .byte) (hn : n0 ≤ r) (hg : h0.size ≤ r) : OSt Z EL a0 n0 h0 ws own bytes mx p l e R s m args below meth c (r :: sv) T h k n := by
  obtain ⟨a1, a2, a3, a4, a5, vm0, locs, Y, b1, b2, b3, b4, b5, b6, b7, b8, b9, b10, b11⟩ := X
  refine ⟨a1, a2, a3, a4, a5, vm0, locs, Y, b1, b2, b3, b4, b5, b6, b7, b8, b9, b10, fun x hx => ?_⟩
  rcases List.mem_cons.mp hx with rfl | hx
  · exact ⟨hn, A.lt, Or.inr hg, Safe.arv b5.alike A h1⟩
  · exact b11 x hx
theorem own_boxes {args : Array Value} {C nm d AK B dd : String} {z : Int32} {F : Term} {val : Int32 → Value} (w1 : (Jvm.Cond.exactly (Term.static C nm d) AK).before args Z = true) (w2 : (Jvm.Cond.arrayOf (Term.static C nm d) (.object B)).before args Z = true) (w3 : (Jvm.Cond.eq (.length (Term.static C nm d)) (.int z)).before args Z = true) (hz : ¬ z < 0)
    (w4 : (Jvm.Cond.all (Term.static C nm d) (.and (.exactly (.elem (Term.static C nm d) (.index 0)) B) (.eq (.field (.elem (Term.static C nm d) (.index 0)) B "value" dd) F))).before args Z = true) (hi : (Jvm.Cond.initializedFor C nm d).before args Z = true ∨ ((Jvm.Cond.initialized C).before args Z = true ∧ (Jvm.Cond.laysStatic C nm d).before args Z = true))
    (hv : ∀ (X : Term) (j : Int32), ¬ j < 0 → (Jvm.Cond.eq X F).value args Z none Z [j.toNatClampNeg] = some true → X.eval args Z none [j.toNatClampNeg] Z = some (val j)) : ∃ (a : Addr) (c : Cell), Sta Z Z.heap C nm d (.ref a) ∧ Bxs Z a c B dd z val := by
  obtain ⟨a, f⟩ := exa_v (Cond.before_iff.mp w1)
  obtain ⟨c, A⟩ := Arr.start f (Cond.before_iff.mp w2)
  have hl : (Term.length (Term.static C nm d)).eval args Z none [] Z = some (.int z) := Cond.eq_int w3 rfl
  have hA := A.fin (Vm.Alike.refl _)
  have hl2 : (if c.slots.size < 2 ^ 31 then some (Value.int c.slots.size.toInt32) else none) = some (.int z) := by
    rw [← hl]; simp [Term.eval] at f ⊢; simp [f, hA]
  have q : c.slots.size < 2 ^ 31 := by
    by_cases q : c.slots.size < 2 ^ 31
    · exact q
    · rw [if_neg q] at hl2; cases hl2
  rw [if_pos q] at hl2
  have e : c.slots.size.toInt32 = z := by simpa using hl2
  exact ⟨a, c, Sta.start f hi, Bxs.start (fun _ => f) A q e hz (Cond.before_iff.mp w4) hv⟩
theorem own_boxL {args : Array Value} {X : Term} {j : Int32} (hj : ¬ j < 0) (h : (Jvm.Cond.eq X (.op1 .i2l (.sub (.index 0) (.int 128)))).value args Z none Z [j.toNatClampNeg] = some true) : X.eval args Z none [j.toNatClampNeg] Z = some (.long (j - 128).toInt64) := by
  refine eqv_l (i2l_at ?_) h
  have q := idx_at (args := args) (s := Z) (first := Z) (o := none) hj
  simp [Term.eval] at q ⊢
  rw [q]
theorem own_getR (X : OSt Z EL a0 n0 h0 ws own bytes mx p l e R s m args below meth c sv T h k n) (pc' : Nat) {O nm d : String} {index : Nat} {a : Addr} {v : Value} (hd : decode bytes pc = .ok (.getfield index, 3)) (w : (Jvm.Cond.fieldRef own index O nm d).before a0 Z = true) (F : Fld Z h a O nm d v) (hq : pc' = pc + 3) (K : OGo p.tables e below P T (mkF m pc' Ls (v :: st))) : OGo p.tables e below P T (mkF m pc Ls (.ref a :: st)) := by
  subst hq
  obtain ⟨hx, hby, hml, eT, hlk, vm0, locs, Y, I⟩ := X
  have hZ : Z.Warmed39 (s.setVm vm0).vm := I.2.2.2.2.1
  have hZT : Z.Warmed39 T.vm := wtrans (s := s.setVm vm0) hZ Y.warmed
  have w' := Cond.fieldRef_warmed39 hZT w
  have hown : (Z.setVm T.vm).vm.findClass own = some m.cls := by
    show T.vm.findClass own = _
    rw [Y.warmed.alike.findClass]; exact I.2.2.2.2.2.1
  obtain ⟨cf, k1, i, f, hi, hready⟩ := Cond.fieldRef_spec hown w'
  obtain ⟨cell, cf2, k2, i2, f2, r1, r2, r3, r4, -, -, r7⟩ := F
  obtain ⟨k3, q1, -⟩ := State.fieldFound?_setVm (s := Z) hZT.alike r2
  have e3 := (show (Z.setVm T.vm).fieldFound? O nm d = some (cf, k1, i, f) from hi).symm.trans q1
  simp only [Option.some.injEq, Prod.mk.injEq] at e3
  obtain ⟨rfl, rfl, rfl, rfl⟩ := e3
  refine og (fun target hrest => ?_) K
  jvm_step Y.here [hx, hb hby hd, getfield.wp_ready (e := e) (s := T) (f := mkF m pc Ls (.ref a :: st)) Y.here.top hready r3 rfl (show T.heap[a]? = some cell by rw [eT]; exact r1) r4 r7]
  exact hrest
theorem own_ldI (X : OSt Z EL a0 n0 h0 ws own bytes mx p l e R s m args below meth c sv T h k n) (pc' : Nat) {a : Addr} {kb : ClassId} {z j : Int32} {v : Value} {vs : List Value} {dv : Value} (hd : decode bytes pc = .ok (.iaload, 1)) (A : Arv Z h a kb .int z vs dv) (h1 : ¬ j < 0) (h2 : j < z) (hv : vs.getD j.toNatClampNeg dv = v) (hq : pc' = pc + 1) (K : OGo p.tables e below P T (mkF m pc' Ls (v :: st))) : OGo p.tables e below P T (mkF m pc Ls (.int j :: .ref a :: st)) := by
  subst hq
  obtain ⟨hx, hby, hml, eT, hlk, vm0, locs, Y, I⟩ := X
  obtain ⟨cl, Ar, q, S, N, Hs, G⟩ := A
  exact og (fun _ r => Y.iaload hx (j := j) (v := v) (by rw [eT]; exact Ar.1) (State.isArrayOf_alike (show Z.Warmed39 (s.setVm vm0).vm from I.2.2.2.2.1).alike Ar.2.1) Ar.2.2 (own_inb S h1 h2) (Hs.at (own_inb S h1 h2) hv) (g := mkF m pc Ls (.int j :: .ref a :: st)) rfl rfl (hb hby hd) _ r) K
theorem own_stI (X : OSt Z EL a0 n0 h0 ws own bytes mx p l e R s m args below meth c sv T h k n) (pc' : Nat) {a : Addr} {kb : ClassId} {z j x : Int32} {vs : List Value} {dv : Value} (hd : decode bytes pc = .ok (.iastore, 1)) (A : Arv Z h a kb .int z vs dv) (h1 : ¬ j < 0) (h2 : j < z) {i : Nat} (hi : j.toNatClampNeg = i) (hl : i < vs.length) (ha : a ∈ sv) (hq : pc' = pc + 1)
    (K : ∀ (T' : State) (h' : Heap), OSt Z EL a0 n0 h0 ws own bytes mx p l e R s m args below meth c sv T' h' k n → Wr h h' a j.toNatClampNeg (.int x) → Keep h h' [a] → Arv Z h' a kb .int z (vs.set i (.int x)) dv → OGo p.tables e below P T' (mkF m pc' Ls st)) : OGo p.tables e below P T (mkF m pc Ls (.int x :: .int j :: .ref a :: st)) := by
  subst hq
  obtain ⟨hx, hby, hml, eT, hlk, vm0, locs, Y, I⟩ := X
  obtain ⟨cl, Ar, q, S, N, Hs, G⟩ := A
  obtain ⟨T', h', Y', e', W, stp⟩ := stI Y hx (show Z.Warmed39 (s.setVm vm0).vm from I.2.2.2.2.1) eT Ar (j := j) (x := x) (own_inb S h1 h2) (g := mkF m pc Ls (.int x :: .int j :: .ref a :: st)) rfl rfl (hb hby hd)
  exact og stp (K T' h' ⟨hx, hby, hml, e', hlk, vm0, _, Y', I.wr ha W⟩ W (Keep.of_wr W) (Arv.set Ar q S N Hs G rfl W i hi hl))
theorem own_clone (X : OSt Z EL a0 n0 h0 ws own bytes mx p l e R s m args below meth c sv T h k n) (pc' : Nat) {ad : String} {index cap W : Nat} {a : Addr} {kb : ClassId} {ty : FieldType} {z : Int32} {vs : List Value} {dv : Value} (hd : decode bytes pc = .ok (.invokevirtual index, 3)) (A : Arv Z h a kb ty z vs dv) (E : Exa Z h a ad) (w1 : (Jvm.Cond.methodLink own index ⟨ad, "clone", "()Ljava/lang/Object;"⟩).before a0 Z = true) (w2 : (Jvm.Cond.sameMethod ad "java/lang/Object" "clone" "()Ljava/lang/Object;").before a0 Z = true) (w3 : (Jvm.Cond.native ⟨"java/lang/Object", "clone", "()Ljava/lang/Object;"⟩).before a0 Z = true)
    (w4 : (Jvm.Cond.instanceMethod ⟨"java/lang/Object", "clone", "()Ljava/lang/Object;"⟩).before a0 Z = true) (w5 : (Jvm.Cond.selects ad ⟨ad, "clone", "()Ljava/lang/Object;"⟩ ⟨"java/lang/Object", "clone", "()Ljava/lang/Object;"⟩).before a0 Z = true) (w6 : (Jvm.Cond.castable ad "java/lang/Cloneable").before a0 Z = true) (hsz : Ls.size = mx) (hW : (st.map fun v => v.category).sum = W) (hf : 1 ≤ R.frames) (hl : W + 14 ≤ R.locals) (hcap : z.toNatClampNeg = cap) (hc : k + 1 ≤ R.cells) (hs : n + cap ≤ R.slots) (hq : pc' = pc + 3)
    (K : ∀ (T' : State) (h' : Heap) (b : Addr), OSt Z EL a0 n0 h0 ws own bytes mx p l e R s m args below meth c (b :: sv) T' h' (k + 1) (n + cap) → Keep h h' [] → h.size ≤ b → b < h'.size → Arv Z h' b kb ty z vs dv → Exa Z h' b ad → OGo p.tables e below P T' (mkF m pc' Ls (.ref b :: st))) : OGo p.tables e below P T (mkF m pc Ls (.ref a :: st)) := by
  subst hq
  obtain ⟨hx, hby, hml, eT, hlk, vm0, locs, Y, I⟩ := X
  obtain ⟨T', h', Y', e', Ex, A', E', stp⟩ := cloneH Y hx (show Z.Warmed39 (s.setVm vm0).vm from I.2.2.2.2.1) (show (s.setVm vm0).vm.findClass own = _ from I.2.2.2.2.2.1) w1 w2 w3 w4 w5 w6 eT A.arh E (g := mkF m pc Ls (.ref a :: st)) rfl (by rw [hml]; exact hsz) rfl (hb hby hd) hf (W := W) (cap := cap) (by show 2 * 0 + _ ≤ _; rw [hW]; omega) hl (Nat.le_of_eq hcap) hc hs
  exact og stp (K T' h' h.size ⟨hx, hby, hml, e', hlk, vm0, locs, Y', I.new Ex (Nat.le_refl _) E'.lt⟩ ((Keep.refl _ _).ext Ex) (Nat.le_refl _) E'.lt A' E')
theorem own_boxI {args : Array Value} {X : Term} {j : Int32} (hj : ¬ j < 0) (h : (Jvm.Cond.eq X (.sub (.index 0) (.int 128))).value args Z none Z [j.toNatClampNeg] = some true) : X.eval args Z none [j.toNatClampNeg] Z = some (.int (j - 128)) := by
  refine eqv_i ?_ h
  have q := idx_at (args := args) (s := Z) (first := Z) (o := none) hj
  simp [Term.eval] at q ⊢
  rw [q]
theorem own_enum {args : Array Value} {C nm d E : String} {o mo : Int32} (w1 : (Jvm.Cond.exactly (Term.static C nm d) C).value args Z none Z [] = some true) (w2 : (Jvm.Cond.eq (.field (Term.static C nm d) E "ordinal" "I") (.int o)).value args Z none Z [] = some true) (w3 : (Jvm.Cond.eq (.field (Term.static C nm d) C "most" "I") (.int mo)).value args Z none Z [] = some true) (hi : (Jvm.Cond.initializedFor C nm d).before args Z = true ∨ ((Jvm.Cond.initialized C).before args Z = true ∧ (Jvm.Cond.laysStatic C nm d).before args Z = true)) :
    Sta Z Z.heap C nm d (.ref (own_sta Z C nm d)) ∧ Exa Z Z.heap (own_sta Z C nm d) C ∧ Fld Z Z.heap (own_sta Z C nm d) E "ordinal" "I" (.int o) ∧ Fld Z Z.heap (own_sta Z C nm d) C "most" "I" (.int mo) := by
  obtain ⟨a, f⟩ := exa_v w1
  rw [own_sta_of f]
  exact ⟨Sta.start f hi, Exa.start f w1, Fld.start ((fld_at f).symm.trans (eqv_i (Term.int_eval _) w2)), Fld.start ((fld_at f).symm.trans (eqv_i (Term.int_eval _) w3))⟩
theorem own_values {args : Array Value} {C nm d B : String} {z : Int32} (hfit : Fit Z) (w1 : (Jvm.Cond.exactly (Term.static C nm d) d).value args Z none Z [] = some true) (w2 : (Jvm.Cond.arrayOf (Term.static C nm d) (.object B)).value args Z none Z [] = some true) (w3 : (Jvm.Cond.eq (.length (Term.static C nm d)) (.int z)).value args Z none Z [] = some true) (hz : ¬ z < 0) (hi : (Jvm.Cond.initializedFor C nm d).before args Z = true ∨ ((Jvm.Cond.initialized C).before args Z = true ∧ (Jvm.Cond.laysStatic C nm d).before args Z = true)) :
    Sta Z Z.heap C nm d (.ref (own_sta Z C nm d)) ∧ Exa Z Z.heap (own_sta Z C nm d) d ∧ ∃ (ck : ClassId) (vs : List Value), Arv Z Z.heap (own_sta Z C nm d) ck (.object B) z vs .null := by
  obtain ⟨a, f⟩ := exa_v w1
  obtain ⟨c, A⟩ := Arr.start f w2
  rw [own_sta_of f]
  have hl : (Term.length (Term.static C nm d)).eval args Z none [] Z = some (.int z) := eqv_i (Term.int_eval _) w3
  have hA := A.fin (Vm.Alike.refl _)
  have hl2 : (if c.slots.size < 2 ^ 31 then some (Value.int c.slots.size.toInt32) else none) = some (.int z) := by
    rw [← hl]; simp [Term.eval] at f ⊢; simp [f, hA]
  have q : c.slots.size < 2 ^ 31 := by
    by_cases q : c.slots.size < 2 ^ 31
    · exact q
    · rw [if_neg q] at hl2; cases hl2
  rw [if_pos q] at hl2
  have e : c.slots.size.toInt32 = z := by simpa using hl2
  have S : c.slots.size = z.toNatClampNeg := by rw [← e]; simp only [Int32.toNatClampNeg, len_toInt q]; rfl
  have H : Has c c.slots.toList .null := fun k hk => by simp [hk]
  refine ⟨Sta.start f hi, Exa.start f w1, c.cls, c.slots.toList, c, A, rfl, S, hz, H, fun k hk => ?_⟩
  have e1 : (Nat.toInt32 k).toNatClampNeg = k := by simp only [Int32.toNatClampNeg, len_toInt (Nat.lt_trans hk q)]; rfl
  exact elem_fits (j := Nat.toInt32 k) hfit A (idx_in hk q) (by rw [e1]; exact H k hk)
theorem own_neA {a b : Addr} {C : String} {kk : Nat} {kb : ClassId} {ty : FieldType} {z : Int32} {vs : List Value} {dv : Value} (E : Exa Z h a C) (wi : (Jvm.Cond.instantiable C kk).before a0 Z = true) (A : Arv Z h b kb ty z vs dv) : a ≠ b := by
  obtain ⟨c, A, -⟩ := A
  exact ne_arr E wi A
theorem own_neAA {a b : Addr} {k1 k2 : ClassId} {t1 t2 : FieldType} {z1 z2 : Int32} {v1 v2 : List Value} {d1 d2 : Value} (A : Arv Z h a k1 t1 z1 v1 d1) (B : Arv Z h b k2 t2 z2 v2 d2) (hn : t1 ≠ t2) : a ≠ b := fun e => by
  subst e
  obtain ⟨c1, A, -⟩ := A
  obtain ⟨c2, B, -⟩ := B
  cases A.1.symm.trans B.1
  obtain ⟨-, kA, hkA, compA, hkindA⟩ := A.2.1
  obtain ⟨-, kB, hkB, compB, hkindB⟩ := B.2.1
  cases hkA.symm.trans hkB
  have := hkindA.symm.trans hkindB
  injection this with _ e
  exact hn e
theorem own_virtUp (X : OSt Z EL a0 n0 h0 ws own bytes mx p l e R s m args below meth c sv T h k n) (pc' : Nat) (hnil : EL = []) {y z : MethodName} {C owner : String} {index maxL W : Nat} {ret : Option FieldType} {rm : Room} {as' : Array Value} {ws' : List Addr} {Q : Option Value → Heap → Prop} {bc : ByteArray} {a : Addr} {argsL rest : List Value} (hd : decode bytes pc = .ok (.invokevirtual index, 3)) (E : Exa Z h a C) (hM : OMet l Z EL n0 z [Jvm.Cond.code z bc maxL ret] rm as' h ws' Q) (w1 : (Cond.methodLink own index y).before a0 Z = true) (w5 : (Cond.sameMethod y.cls owner y.name y.desc).before a0 Z = true) (w2 : (Cond.declares ⟨owner, y.name, y.desc⟩).before a0 Z = true) (w3 : (Cond.selects C y z).before a0 Z = true) (w4 : (Cond.instanceMethod z).before a0 Z = true) (wz : (Cond.initialized z.cls).before a0 Z = true) (wc : (Cond.code z bc maxL ret).before a0 Z = true) (hy : owner ≠ "java/lang/invoke/MethodHandle" ∧ owner ≠ "java/lang/invoke/VarHandle")
    (hlen : ∀ sig, parseMethodDescriptor y.desc = some sig → argsL.length = sig.parameters.length) (hst : st = argsL.reverse ++ .ref a :: rest) (has : (.ref a :: argsL).toArray = as') (hsz : Ls.size = mx) (hW : (rest.map fun v => v.category).sum = W) (hf : rm.frames + 1 ≤ R.frames) (hl : W + (maxL + 11) + rm.locals ≤ R.locals) (hc : k + rm.cells ≤ R.cells) (hs : n + rm.slots ≤ R.slots) (hsv : ∀ x ∈ ws', x ∈ sv) (hq : pc' = pc + 3)
    (K : ∀ (T' : State) (h' : Heap) (v : Option Value), OSt Z EL a0 n0 h0 ws own bytes mx p l e R s m args below meth c sv T' h' (k + rm.cells) (n + rm.slots) → Keep h h' ws' → Q v h' → OGo p.tables e below P T' (mkF m pc' Ls (v.toList ++ rest))) : OGo p.tables e below P T (mkF m pc Ls st) := by
  subst hq
  obtain ⟨hx, hby, hml, eT, hlk, vm0, locs, Y, I⟩ := X
  have I0 := I
  obtain ⟨b1, b2, b3, b4, b5, b6, b7, b8, b9, b10, b11⟩ := I0
  have hS : ∀ x ∈ ws', x < h.size ∧ Safe Z EL vm0 h x := fun x hx => ⟨(b11 x (hsv x hx)).2.1, (b11 x (hsv x hx)).2.2.2⟩
  have hZ : Z.Warmed39 (s.setVm vm0).vm := b5
  have hW' : 2 * (mkF m pc Ls st).monitorRoom + (rest.map fun v => v.category).sum ≤ W := by show 2 * 0 + _ ≤ _; rw [hW]; omega
  obtain ⟨cq, kq, qa, qb, qc⟩ := isOf (s := s.setVm vm0) hZ eT E
  obtain ⟨v, vm₁, ⟨U, L', k', n'⟩, -, Y', ⟨L, ⟨q1, q2, q3⟩, l1, l2, l3⟩, stp⟩ := Y.virtualBackUp hx (x := y) (y := z) (show (s.setVm vm0).vm.findClass own = _ from b6) (mvT hZ w1) (mvT hZ w5) (mvT hZ w2) hy (mvT hZ w3) (mvT hZ w4) (own_payN hnil hM b5 wc wz hf hl b7 b8.1 hS) qa qc (g := mkF m pc Ls st) rfl (by rw [hml]; exact hsz) (Steps.refl _) (argsL := argsL) (rest := rest) hlen hst hW' (hb hby hd) (fun _ _ => ⟨has, eT, hc, hs⟩)
  dsimp only [Pt.U, Pt.locs, Pt.cells, Pt.slots] at Y' l1 l2 l3 q1 q2 q3 stp
  subst l1 l2 l3
  exact og (fun _ q => stp.trans q) (K U U.heap v ⟨hx, hby, hml, rfl, hlk, vm0, _, Y', I.keep q2 hsv q1⟩ q2 q3)
end OwnKit
def own_kS (Z : State) : Addr := own_sta Z "com/example/bote/bote/service/SendQueue$Kind" "STORED" "Lcom/example/bote/bote/service/SendQueue$Kind;"
def own_kO (Z : State) : Addr := own_sta Z "com/example/bote/bote/service/SendQueue$Kind" "OFFERED" "Lcom/example/bote/bote/service/SendQueue$Kind;"
def own_kR (Z : State) : Addr := own_sta Z "com/example/bote/bote/service/SendQueue$Kind" "REPLY" "Lcom/example/bote/bote/service/SendQueue$Kind;"
def own_kV (Z : State) : Addr := own_sta Z "com/example/bote/bote/service/SendQueue$Kind" "$VALUES" "[Lcom/example/bote/bote/service/SendQueue$Kind;"
theorem ow {Z : State} {a0 : Array Value} (hw : ∀ d ∈ tables_1, d.before a0 Z = true) (i : Nat) {d : Jvm.Cond} (h : tables_1[i]? = some d) : d.before a0 Z = true := hw d (List.mem_of_getElem? h)
theorem om {α : Type} {L : List α} {a : α} (i : Nat) (h : L[i]? = some a) : a ∈ L := List.mem_of_getElem? h
def own_EL : List (String × Nat) := []
def OWorld (Z : State) (a0 : Array Value) : Prop := EW Z a0 own_EL ∧ (Sta Z Z.heap "java/lang/Integer$IntegerCache" "high" "I" (.int 127)) ∧ (∃ (ca : Addr) (cc : Cell), Sta Z Z.heap "java/lang/Integer$IntegerCache" "cache" "[Ljava/lang/Integer;" (.ref ca) ∧ Bxs Z ca cc "java/lang/Integer" "I" 256 (fun j => .int (j - 128))) ∧ (Sta Z Z.heap "com/example/bote/bote/service/SendQueue$Kind" "STORED" "Lcom/example/bote/bote/service/SendQueue$Kind;" (.ref (own_kS Z)) ∧ Exa Z Z.heap (own_kS Z) "com/example/bote/bote/service/SendQueue$Kind" ∧ Fld Z Z.heap (own_kS Z) "java/lang/Enum" "ordinal" "I" (.int 0) ∧ Fld Z Z.heap (own_kS Z) "com/example/bote/bote/service/SendQueue$Kind" "most" "I" (.int 2147483647)) ∧ (Sta Z Z.heap "com/example/bote/bote/service/SendQueue$Kind" "OFFERED" "Lcom/example/bote/bote/service/SendQueue$Kind;" (.ref (own_kO Z)) ∧ Exa Z Z.heap (own_kO Z) "com/example/bote/bote/service/SendQueue$Kind" ∧ Fld Z Z.heap (own_kO Z) "java/lang/Enum" "ordinal" "I" (.int 1) ∧ Fld Z Z.heap (own_kO Z) "com/example/bote/bote/service/SendQueue$Kind" "most" "I" (.int 100)) ∧ (Sta Z Z.heap "com/example/bote/bote/service/SendQueue$Kind" "REPLY" "Lcom/example/bote/bote/service/SendQueue$Kind;" (.ref (own_kR Z)) ∧ Exa Z Z.heap (own_kR Z) "com/example/bote/bote/service/SendQueue$Kind" ∧ Fld Z Z.heap (own_kR Z) "java/lang/Enum" "ordinal" "I" (.int 2) ∧ Fld Z Z.heap (own_kR Z) "com/example/bote/bote/service/SendQueue$Kind" "most" "I" (.int 100)) ∧ (Sta Z Z.heap "com/example/bote/bote/service/SendQueue$Kind" "$VALUES" "[Lcom/example/bote/bote/service/SendQueue$Kind;" (.ref (own_kV Z)) ∧ Exa Z Z.heap (own_kV Z) "[Lcom/example/bote/bote/service/SendQueue$Kind;" ∧ ∃ (ck : ClassId) (vs : List Value), Arv Z Z.heap (own_kV Z) ck (.object "com/example/bote/bote/service/SendQueue$Kind") 3 vs .null)
def own_bd (b : Nat) (x : Int32) : Prop := -(b : Int) ≤ x.toInt ∧ x.toInt ≤ b
theorem own_bd0 (b : Nat) : own_bd b 0 := by unfold own_bd; rw [show (0 : Int32).toInt = 0 from rfl]; omega
theorem own_bdm {b c : Nat} {x : Int32} (h : own_bd b x) (q : b ≤ c) : own_bd c x := by unfold own_bd at *; omega
theorem own_bda {b : Nat} {x : Int32} (h : own_bd b x) (q : b ≤ 100) : own_bd (b + 1) (x + 1) := by
  unfold own_bd at *
  rw [Int32.toInt_add, show (1 : Int32).toInt = 1 from rfl, Int.bmod_def]; omega
theorem own_bds {b : Nat} {x : Int32} (h : own_bd b x) (q : b ≤ 100) : own_bd (b + 1) (x - 1) := by
  unfold own_bd at *
  rw [Int32.toInt_sub, show (1 : Int32).toInt = 1 from rfl, Int.bmod_def]; omega
theorem own_bdl {x m : Int32} (h : own_bd 3 x) (q : ¬ m < 100) : x < m := by
  unfold own_bd at h
  rw [Int32.lt_iff_toInt_lt] at *
  have : (100 : Int32).toInt = 100 := rfl
  omega
theorem own_ic {x : Int32} (h1 : ¬ x < -128) (h2 : ¬ 127 < x) : ¬ x + 128 < 0 ∧ x + 128 < 256 := by
  rw [Int32.lt_iff_toInt_lt] at h1 h2
  have e1 : (-128 : Int32).toInt = -128 := rfl
  have e2 : (127 : Int32).toInt = 127 := rfl
  have e3 : (128 : Int32).toInt = 128 := rfl
  have e4 : (256 : Int32).toInt = 256 := rfl
  have e5 : (0 : Int32).toInt = 0 := rfl
  have e : (x + 128).toInt = x.toInt + 128 := by rw [Int32.toInt_add, e3, Int.bmod_def]; omega
  rw [Int32.lt_iff_toInt_lt, Int32.lt_iff_toInt_lt, e]
  omega
theorem own_mod3 (x : Int32) : (x &&& 2147483647) % 3 = 0 ∨ (x &&& 2147483647) % 3 = 1 ∨ (x &&& 2147483647) % 3 = 2 := by
  have b : own_N (x &&& 2147483647) = own_N x % 2 ^ 31 := own_N_and 31 rfl
  generalize x &&& 2147483647 = y at b ⊢
  have c : y.toInt = own_N y := by
    have e : y.toInt = y.toBitVec.toInt := rfl
    rw [e, BitVec.toInt_eq_toNat_cond, if_pos (by show 2 * own_N y < _; omega)]; rfl
  have d : (y % 3).toInt = y.toInt.tmod 3 := by rw [Int32.toInt_mod]; rfl
  have e : (y % 3).toInt = ((own_N y % 3 : Nat) : Int) := by rw [d, c]; rfl
  have f : own_N y % 3 = 0 ∨ own_N y % 3 = 1 ∨ own_N y % 3 = 2 := by omega
  simp only [← Int32.toInt_inj]
  rcases f with f | f | f <;> rw [e, f] <;> simp
theorem ef_rm1 (x : Int32) (m : MethodId) : entryFrame m #[(.int x)] 2 = mkF m 0 #[.val (.int x), .unset] [] := by first | (simp [entryFrame, mkF, argsToLocals, Value.category, maxLocals]; done) | rfl
theorem pn_com_example_bote_bote_service_SendQueueIsFullPinLaw_pick__I_Lcom_example_bote_bote_service_SendQueue_Kind_ : plainFor (⟨"com/example/bote/bote/service/SendQueueIsFullPinLaw", "pick", "(I)Lcom/example/bote/bote/service/SendQueue$Kind;"⟩ : MethodName) = true := by first | exact plainFor_of_name (by first | (simp [plainName, overriddenIn]; done) | decide +kernel) | decide +kernel
theorem d1_0 : decode method_2_code 0 = .ok (.iconst 3, 1) := by decide +kernel
theorem d1_1 : decode method_2_code 1 = .ok (.anewarray 7, 3) := by decide +kernel
theorem d1_4 : decode method_2_code 4 = .ok (.dup, 1) := by decide +kernel
theorem d1_5 : decode method_2_code 5 = .ok (.iconst 0, 1) := by decide +kernel
theorem d1_6 : decode method_2_code 6 = .ok (.getstatic 9, 3) := by decide +kernel
theorem d1_9 : decode method_2_code 9 = .ok (.aastore, 1) := by decide +kernel
theorem d1_10 : decode method_2_code 10 = .ok (.dup, 1) := by decide +kernel
theorem d1_11 : decode method_2_code 11 = .ok (.iconst 1, 1) := by decide +kernel
theorem d1_12 : decode method_2_code 12 = .ok (.getstatic 13, 3) := by decide +kernel
theorem d1_15 : decode method_2_code 15 = .ok (.aastore, 1) := by decide +kernel
theorem d1_16 : decode method_2_code 16 = .ok (.dup, 1) := by decide +kernel
theorem d1_17 : decode method_2_code 17 = .ok (.iconst 2, 1) := by decide +kernel
theorem d1_18 : decode method_2_code 18 = .ok (.getstatic 16, 3) := by decide +kernel
theorem d1_21 : decode method_2_code 21 = .ok (.aastore, 1) := by decide +kernel
theorem d1_22 : decode method_2_code 22 = .ok (.astore_n 1, 1) := by decide +kernel
theorem d1_23 : decode method_2_code 23 = .ok (.aload_n 1, 1) := by decide +kernel
theorem d1_24 : decode method_2_code 24 = .ok (.iload_n 0, 1) := by decide +kernel
theorem d1_25 : decode method_2_code 25 = .ok (.ldc 19, 2) := by decide +kernel
theorem d1_27 : decode method_2_code 27 = .ok (.iand, 1) := by decide +kernel
theorem d1_28 : decode method_2_code 28 = .ok (.iconst 3, 1) := by decide +kernel
theorem d1_29 : decode method_2_code 29 = .ok (.irem, 1) := by decide +kernel
theorem d1_30 : decode method_2_code 30 = .ok (.aaload, 1) := by decide +kernel
theorem d1_31 : decode method_2_code 31 = .ok (.areturn, 1) := by decide +kernel
theorem ef_rm5 (a : Addr) (m : MethodId) : entryFrame m #[(.ref a)] 1 = mkF m 0 #[.val (.ref a)] [] := by first | (simp [entryFrame, mkF, argsToLocals, Value.category, maxLocals]; done) | rfl
theorem pn_java_util_AbstractCollection__init____V : plainFor (⟨"java/util/AbstractCollection", "<init>", "()V"⟩ : MethodName) = true := by first | exact plainFor_of_name (by first | (simp [plainName, overriddenIn]; done) | decide +kernel) | decide +kernel
theorem d5_0 : decode jdk_22_method_1_code 0 = .ok (.aload_n 0, 1) := by decide +kernel
theorem d5_1 : decode jdk_22_method_1_code 1 = .ok (.invokespecial 1, 3) := by decide +kernel
theorem d5_4 : decode jdk_22_method_1_code 4 = .ok (.return_, 1) := by decide +kernel
theorem ef_rm4 (a : Addr) (y : Value) (x : Int32) (z : Int32) (m : MethodId) : entryFrame m #[(.ref a)] 1 = mkF m 0 #[.val (.ref a)] [] := by first | (simp [entryFrame, mkF, argsToLocals, Value.category, maxLocals]; done) | rfl
theorem pn_java_util_ArrayDeque__init____V : plainFor (⟨"java/util/ArrayDeque", "<init>", "()V"⟩ : MethodName) = true := by first | exact plainFor_of_name (by first | (simp [plainName, overriddenIn]; done) | decide +kernel) | decide +kernel
theorem d4_0 : decode jdk_21_method_3_code 0 = .ok (.aload_n 0, 1) := by decide +kernel
theorem d4_1 : decode jdk_21_method_3_code 1 = .ok (.invokespecial 42, 3) := by decide +kernel
theorem pd__28_29V : parseMethodDescriptor "()V" = some ⟨[], none⟩ := by decide +kernel
theorem d4_4 : decode jdk_21_method_3_code 4 = .ok (.aload_n 0, 1) := by decide +kernel
theorem d4_5 : decode jdk_21_method_3_code 5 = .ok (.bipush 17, 2) := by decide +kernel
theorem d4_7 : decode jdk_21_method_3_code 7 = .ok (.anewarray 47, 3) := by decide +kernel
theorem d4_10 : decode jdk_21_method_3_code 10 = .ok (.putfield 3, 3) := by decide +kernel
theorem d4_13 : decode jdk_21_method_3_code 13 = .ok (.return_, 1) := by decide +kernel
theorem ef_rd_inc0 (m : MethodId) : entryFrame m #[(.int (0 : Int32)), (.int (17 : Int32))] 2 = mkF m 0 #[.val (.int (0 : Int32)), .val (.int (17 : Int32))] [] := by first | (simp [entryFrame, mkF, argsToLocals, Value.category, maxLocals]; done) | rfl
theorem pn_java_util_ArrayDeque_inc__II_I : plainFor (⟨"java/util/ArrayDeque", "inc", "(II)I"⟩ : MethodName) = true := by first | exact plainFor_of_name (by first | (simp [plainName, overriddenIn]; done) | decide +kernel) | decide +kernel
theorem d13_0 : decode jdk_21_method_6_code 0 = .ok (.iinc 0 1, 3) := by decide +kernel
theorem d13_3 : decode jdk_21_method_6_code 3 = .ok (.iload_n 0, 1) := by decide +kernel
theorem d13_4 : decode jdk_21_method_6_code 4 = .ok (.iload_n 1, 1) := by decide +kernel
theorem d13_5 : decode jdk_21_method_6_code 5 = .ok (.if_icmp .lt 5, 3) := by decide +kernel
theorem d13_10 : decode jdk_21_method_6_code 10 = .ok (.iload_n 0, 1) := by decide +kernel
theorem d13_11 : decode jdk_21_method_6_code 11 = .ok (.ireturn, 1) := by decide +kernel
theorem ef_rd_inc1 (m : MethodId) : entryFrame m #[(.int (1 : Int32)), (.int (17 : Int32))] 2 = mkF m 0 #[.val (.int (1 : Int32)), .val (.int (17 : Int32))] [] := by first | (simp [entryFrame, mkF, argsToLocals, Value.category, maxLocals]; done) | rfl
theorem ef_rd_ali0 (a : Addr) (el : Addr) (ke : ClassId) (v : Addr) (m : MethodId) : entryFrame m #[(.ref a), (.ref v)] 3 = mkF m 0 #[.val (.ref a), .val (.ref v), .unset] [] := by first | (simp [entryFrame, mkF, argsToLocals, Value.category, maxLocals]; done) | rfl
theorem pn_java_util_ArrayDeque_addLast__Ljava_lang_Object__V : plainFor (⟨"java/util/ArrayDeque", "addLast", "(Ljava/lang/Object;)V"⟩ : MethodName) = true := by first | exact plainFor_of_name (by first | (simp [plainName, overriddenIn]; done) | decide +kernel) | decide +kernel
theorem d12_0 : decode jdk_21_method_13_code 0 = .ok (.aload_n 1, 1) := by decide +kernel
theorem d12_1 : decode jdk_21_method_13_code 1 = .ok (.ifnonnull 11, 3) := by decide +kernel
theorem d12_12 : decode jdk_21_method_13_code 12 = .ok (.aload_n 0, 1) := by decide +kernel
theorem d12_13 : decode jdk_21_method_13_code 13 = .ok (.getfield 3, 3) := by decide +kernel
theorem d12_16 : decode jdk_21_method_13_code 16 = .ok (.astore_n 2, 1) := by decide +kernel
theorem d12_17 : decode jdk_21_method_13_code 17 = .ok (.aload_n 2, 1) := by decide +kernel
theorem d12_18 : decode jdk_21_method_13_code 18 = .ok (.aload_n 0, 1) := by decide +kernel
theorem d12_19 : decode jdk_21_method_13_code 19 = .ok (.getfield 20, 3) := by decide +kernel
theorem d12_22 : decode jdk_21_method_13_code 22 = .ok (.aload_n 1, 1) := by decide +kernel
theorem d12_23 : decode jdk_21_method_13_code 23 = .ok (.aastore, 1) := by decide +kernel
theorem d12_24 : decode jdk_21_method_13_code 24 = .ok (.aload_n 0, 1) := by decide +kernel
theorem d12_25 : decode jdk_21_method_13_code 25 = .ok (.getfield 24, 3) := by decide +kernel
theorem d12_28 : decode jdk_21_method_13_code 28 = .ok (.aload_n 0, 1) := by decide +kernel
theorem d12_29 : decode jdk_21_method_13_code 29 = .ok (.aload_n 0, 1) := by decide +kernel
theorem d12_30 : decode jdk_21_method_13_code 30 = .ok (.getfield 20, 3) := by decide +kernel
theorem d12_33 : decode jdk_21_method_13_code 33 = .ok (.aload_n 2, 1) := by decide +kernel
theorem d12_34 : decode jdk_21_method_13_code 34 = .ok (.arraylength, 1) := by decide +kernel
theorem d12_35 : decode jdk_21_method_13_code 35 = .ok (.invokestatic 74, 3) := by decide +kernel
theorem pd__28II_29I : parseMethodDescriptor "(II)I" = some ⟨[.int, .int], some .int⟩ := by decide +kernel
theorem d12_38 : decode jdk_21_method_13_code 38 = .ok (.dup_x1, 1) := by decide +kernel
theorem d12_39 : decode jdk_21_method_13_code 39 = .ok (.putfield 20, 3) := by decide +kernel
theorem d12_42 : decode jdk_21_method_13_code 42 = .ok (.if_icmp .ne 8, 3) := by decide +kernel
theorem d12_50 : decode jdk_21_method_13_code 50 = .ok (.return_, 1) := by decide +kernel
theorem ef_rd_adi0 (a : Addr) (el : Addr) (ke : ClassId) (v : Addr) (m : MethodId) : entryFrame m #[(.ref a), (.ref v)] 2 = mkF m 0 #[.val (.ref a), .val (.ref v)] [] := by first | (simp [entryFrame, mkF, argsToLocals, Value.category, maxLocals]; done) | rfl
theorem pn_java_util_ArrayDeque_add__Ljava_lang_Object__Z : plainFor (⟨"java/util/ArrayDeque", "add", "(Ljava/lang/Object;)Z"⟩ : MethodName) = true := by first | exact plainFor_of_name (by first | (simp [plainName, overriddenIn]; done) | decide +kernel) | decide +kernel
theorem d11_0 : decode jdk_21_method_28_code 0 = .ok (.aload_n 0, 1) := by decide +kernel
theorem d11_1 : decode jdk_21_method_28_code 1 = .ok (.aload_n 1, 1) := by decide +kernel
theorem d11_2 : decode jdk_21_method_28_code 2 = .ok (.invokevirtual 90, 3) := by decide +kernel
theorem pd__28Ljava_2flang_2fObject_3b_29V : parseMethodDescriptor "(Ljava/lang/Object;)V" = some ⟨[(.object "java/lang/Object")], none⟩ := by decide +kernel
theorem d11_5 : decode jdk_21_method_28_code 5 = .ok (.iconst 1, 1) := by decide +kernel
theorem d11_6 : decode jdk_21_method_28_code 6 = .ok (.ireturn, 1) := by decide +kernel
theorem ef_rd_alk0 (a : Addr) (el : Addr) (ke : ClassId) (v : Addr) (m : MethodId) : entryFrame m #[(.ref a), (.ref v)] 3 = mkF m 0 #[.val (.ref a), .val (.ref v), .unset] [] := by first | (simp [entryFrame, mkF, argsToLocals, Value.category, maxLocals]; done) | rfl
theorem ef_rd_adk0 (a : Addr) (el : Addr) (ke : ClassId) (v : Addr) (m : MethodId) : entryFrame m #[(.ref a), (.ref v)] 2 = mkF m 0 #[.val (.ref a), .val (.ref v)] [] := by first | (simp [entryFrame, mkF, argsToLocals, Value.category, maxLocals]; done) | rfl
theorem ef_rd_ali1 (a : Addr) (el : Addr) (ke : ClassId) (v : Addr) (z0 : Addr) (m : MethodId) : entryFrame m #[(.ref a), (.ref v)] 3 = mkF m 0 #[.val (.ref a), .val (.ref v), .unset] [] := by first | (simp [entryFrame, mkF, argsToLocals, Value.category, maxLocals]; done) | rfl
theorem ef_rd_adi1 (a : Addr) (el : Addr) (ke : ClassId) (v : Addr) (z0 : Addr) (m : MethodId) : entryFrame m #[(.ref a), (.ref v)] 2 = mkF m 0 #[.val (.ref a), .val (.ref v)] [] := by first | (simp [entryFrame, mkF, argsToLocals, Value.category, maxLocals]; done) | rfl
theorem ef_rd_alk1 (a : Addr) (el : Addr) (ke : ClassId) (v : Addr) (z0 : Addr) (m : MethodId) : entryFrame m #[(.ref a), (.ref v)] 3 = mkF m 0 #[.val (.ref a), .val (.ref v), .unset] [] := by first | (simp [entryFrame, mkF, argsToLocals, Value.category, maxLocals]; done) | rfl
theorem ef_rd_adk1 (a : Addr) (el : Addr) (ke : ClassId) (v : Addr) (z0 : Addr) (m : MethodId) : entryFrame m #[(.ref a), (.ref v)] 2 = mkF m 0 #[.val (.ref a), .val (.ref v)] [] := by first | (simp [entryFrame, mkF, argsToLocals, Value.category, maxLocals]; done) | rfl
theorem ef_rm17 (el : Addr) (ke : ClassId) (v : Addr) (z0 : Addr) (m : MethodId) : entryFrame m #[(.ref el), (.int (0 : Int32))] 2 = mkF m 0 #[.val (.ref el), .val (.int (0 : Int32))] [] := by first | (simp [entryFrame, mkF, argsToLocals, Value.category, maxLocals]; done) | rfl
theorem pn_java_util_ArrayDeque_elementAt___Ljava_lang_Object_I_Ljava_lang_Object_ : plainFor (⟨"java/util/ArrayDeque", "elementAt", "([Ljava/lang/Object;I)Ljava/lang/Object;"⟩ : MethodName) = true := by first | exact plainFor_of_name (by first | (simp [plainName, overriddenIn]; done) | decide +kernel) | decide +kernel
theorem d17_0 : decode jdk_21_method_10_code 0 = .ok (.aload_n 0, 1) := by decide +kernel
theorem d17_1 : decode jdk_21_method_10_code 1 = .ok (.iload_n 1, 1) := by decide +kernel
theorem d17_2 : decode jdk_21_method_10_code 2 = .ok (.aaload, 1) := by decide +kernel
theorem d17_3 : decode jdk_21_method_10_code 3 = .ok (.areturn, 1) := by decide +kernel
theorem ef_rd_pf (a : Addr) (el : Addr) (ke : ClassId) (v : Addr) (z0 : Addr) (m : MethodId) : entryFrame m #[(.ref a)] 4 = mkF m 0 #[.val (.ref a), .unset, .unset, .unset] [] := by first | (simp [entryFrame, mkF, argsToLocals, Value.category, maxLocals]; done) | rfl
theorem pn_java_util_ArrayDeque_pollFirst___Ljava_lang_Object_ : plainFor (⟨"java/util/ArrayDeque", "pollFirst", "()Ljava/lang/Object;"⟩ : MethodName) = true := by first | exact plainFor_of_name (by first | (simp [plainName, overriddenIn]; done) | decide +kernel) | decide +kernel
theorem d16_0 : decode jdk_21_method_20_code 0 = .ok (.aload_n 0, 1) := by decide +kernel
theorem d16_1 : decode jdk_21_method_20_code 1 = .ok (.getfield 3, 3) := by decide +kernel
theorem d16_4 : decode jdk_21_method_20_code 4 = .ok (.dup, 1) := by decide +kernel
theorem d16_5 : decode jdk_21_method_20_code 5 = .ok (.astore_n 1, 1) := by decide +kernel
theorem d16_6 : decode jdk_21_method_20_code 6 = .ok (.aload_n 0, 1) := by decide +kernel
theorem d16_7 : decode jdk_21_method_20_code 7 = .ok (.getfield 24, 3) := by decide +kernel
theorem d16_10 : decode jdk_21_method_20_code 10 = .ok (.dup, 1) := by decide +kernel
theorem d16_11 : decode jdk_21_method_20_code 11 = .ok (.istore_n 2, 1) := by decide +kernel
theorem d16_12 : decode jdk_21_method_20_code 12 = .ok (.invokestatic 103, 3) := by decide +kernel
theorem pd__28_5bLjava_2flang_2fObject_3bI_29Ljava_2flang_2fObject_3b : parseMethodDescriptor "([Ljava/lang/Object;I)Ljava/lang/Object;" = some ⟨[(.array (.object "java/lang/Object")), .int], some (.object "java/lang/Object")⟩ := by decide +kernel
theorem d16_15 : decode jdk_21_method_20_code 15 = .ok (.astore_n 3, 1) := by decide +kernel
theorem d16_16 : decode jdk_21_method_20_code 16 = .ok (.aload_n 3, 1) := by decide +kernel
theorem d16_17 : decode jdk_21_method_20_code 17 = .ok (.ifnull 17, 3) := by decide +kernel
theorem d16_20 : decode jdk_21_method_20_code 20 = .ok (.aload_n 1, 1) := by decide +kernel
theorem d16_21 : decode jdk_21_method_20_code 21 = .ok (.iload_n 2, 1) := by decide +kernel
theorem d16_22 : decode jdk_21_method_20_code 22 = .ok (.aconst_null, 1) := by decide +kernel
theorem d16_23 : decode jdk_21_method_20_code 23 = .ok (.aastore, 1) := by decide +kernel
theorem d16_24 : decode jdk_21_method_20_code 24 = .ok (.aload_n 0, 1) := by decide +kernel
theorem d16_25 : decode jdk_21_method_20_code 25 = .ok (.iload_n 2, 1) := by decide +kernel
theorem d16_26 : decode jdk_21_method_20_code 26 = .ok (.aload_n 1, 1) := by decide +kernel
theorem d16_27 : decode jdk_21_method_20_code 27 = .ok (.arraylength, 1) := by decide +kernel
theorem d16_28 : decode jdk_21_method_20_code 28 = .ok (.invokestatic 74, 3) := by decide +kernel
theorem d16_31 : decode jdk_21_method_20_code 31 = .ok (.putfield 24, 3) := by decide +kernel
theorem d16_34 : decode jdk_21_method_20_code 34 = .ok (.aload_n 3, 1) := by decide +kernel
theorem d16_35 : decode jdk_21_method_20_code 35 = .ok (.areturn, 1) := by decide +kernel
theorem ef_rd_po (a : Addr) (el : Addr) (ke : ClassId) (v : Addr) (z0 : Addr) (m : MethodId) : entryFrame m #[(.ref a)] 1 = mkF m 0 #[.val (.ref a)] [] := by first | (simp [entryFrame, mkF, argsToLocals, Value.category, maxLocals]; done) | rfl
theorem pn_java_util_ArrayDeque_poll___Ljava_lang_Object_ : plainFor (⟨"java/util/ArrayDeque", "poll", "()Ljava/lang/Object;"⟩ : MethodName) = true := by first | exact plainFor_of_name (by first | (simp [plainName, overriddenIn]; done) | decide +kernel) | decide +kernel
theorem d15_0 : decode jdk_21_method_31_code 0 = .ok (.aload_n 0, 1) := by decide +kernel
theorem d15_1 : decode jdk_21_method_31_code 1 = .ok (.invokevirtual 93, 3) := by decide +kernel
theorem pd__28_29Ljava_2flang_2fObject_3b : parseMethodDescriptor "()Ljava/lang/Object;" = some ⟨[], some (.object "java/lang/Object")⟩ := by decide +kernel
theorem d15_4 : decode jdk_21_method_31_code 4 = .ok (.areturn, 1) := by decide +kernel
theorem ef_rd_rf (a : Addr) (el : Addr) (ke : ClassId) (v : Addr) (z0 : Addr) (m : MethodId) : entryFrame m #[(.ref a)] 2 = mkF m 0 #[.val (.ref a), .unset] [] := by first | (simp [entryFrame, mkF, argsToLocals, Value.category, maxLocals]; done) | rfl
theorem pn_java_util_ArrayDeque_removeFirst___Ljava_lang_Object_ : plainFor (⟨"java/util/ArrayDeque", "removeFirst", "()Ljava/lang/Object;"⟩ : MethodName) = true := by first | exact plainFor_of_name (by first | (simp [plainName, overriddenIn]; done) | decide +kernel) | decide +kernel
theorem d19_0 : decode jdk_21_method_18_code 0 = .ok (.aload_n 0, 1) := by decide +kernel
theorem d19_1 : decode jdk_21_method_18_code 1 = .ok (.invokevirtual 93, 3) := by decide +kernel
theorem d19_4 : decode jdk_21_method_18_code 4 = .ok (.astore_n 1, 1) := by decide +kernel
theorem d19_5 : decode jdk_21_method_18_code 5 = .ok (.aload_n 1, 1) := by decide +kernel
theorem d19_6 : decode jdk_21_method_18_code 6 = .ok (.ifnonnull 11, 3) := by decide +kernel
theorem d19_17 : decode jdk_21_method_18_code 17 = .ok (.aload_n 1, 1) := by decide +kernel
theorem d19_18 : decode jdk_21_method_18_code 18 = .ok (.areturn, 1) := by decide +kernel
theorem ef_rd_re (a : Addr) (el : Addr) (ke : ClassId) (v : Addr) (z0 : Addr) (m : MethodId) : entryFrame m #[(.ref a)] 1 = mkF m 0 #[.val (.ref a)] [] := by first | (simp [entryFrame, mkF, argsToLocals, Value.category, maxLocals]; done) | rfl
theorem pn_java_util_ArrayDeque_remove___Ljava_lang_Object_ : plainFor (⟨"java/util/ArrayDeque", "remove", "()Ljava/lang/Object;"⟩ : MethodName) = true := by first | exact plainFor_of_name (by first | (simp [plainName, overriddenIn]; done) | decide +kernel) | decide +kernel
theorem d18_0 : decode jdk_21_method_30_code 0 = .ok (.aload_n 0, 1) := by decide +kernel
theorem d18_1 : decode jdk_21_method_30_code 1 = .ok (.invokevirtual 118, 3) := by decide +kernel
theorem d18_4 : decode jdk_21_method_30_code 4 = .ok (.areturn, 1) := by decide +kernel
theorem ef_rm6 (m : MethodId) : entryFrame m #[] 0 = mkF m 0 #[] [] := by first | (simp [entryFrame, mkF, argsToLocals, Value.category, maxLocals]; done) | rfl
theorem pn_com_example_bote_bote_service_SendQueue_Kind_values____Lcom_example_bote_bote_service_SendQueue_Kind_ : plainFor (⟨"com/example/bote/bote/service/SendQueue$Kind", "values", "()[Lcom/example/bote/bote/service/SendQueue$Kind;"⟩ : MethodName) = true := by first | exact plainFor_of_name (by first | (simp [plainName, overriddenIn]; done) | decide +kernel) | decide +kernel
theorem d6_0 : decode prog_26_method_1_code 0 = .ok (.getstatic 15, 3) := by decide +kernel
theorem d6_3 : decode prog_26_method_1_code 3 = .ok (.invokevirtual 19, 3) := by decide +kernel
theorem d6_6 : decode prog_26_method_1_code 6 = .ok (.checkcast 20, 3) := by decide +kernel
theorem d6_9 : decode prog_26_method_1_code 9 = .ok (.areturn, 1) := by decide +kernel
theorem ef_rm2 (a : Addr) (m : MethodId) : entryFrame m #[(.ref a)] 1 = mkF m 0 #[.val (.ref a)] [] := by first | (simp [entryFrame, mkF, argsToLocals, Value.category, maxLocals]; done) | rfl
theorem pn_com_example_bote_bote_service_SendQueue__init____V : plainFor (⟨"com/example/bote/bote/service/SendQueue", "<init>", "()V"⟩ : MethodName) = true := by first | exact plainFor_of_name (by first | (simp [plainName, overriddenIn]; done) | decide +kernel) | decide +kernel
theorem d2_0 : decode prog_25_method_1_code 0 = .ok (.aload_n 0, 1) := by decide +kernel
theorem d2_1 : decode prog_25_method_1_code 1 = .ok (.invokespecial 1, 3) := by decide +kernel
theorem d2_4 : decode prog_25_method_1_code 4 = .ok (.aload_n 0, 1) := by decide +kernel
theorem d2_5 : decode prog_25_method_1_code 5 = .ok (.new 7, 3) := by decide +kernel
theorem d2_8 : decode prog_25_method_1_code 8 = .ok (.dup, 1) := by decide +kernel
theorem d2_9 : decode prog_25_method_1_code 9 = .ok (.invokespecial 9, 3) := by decide +kernel
theorem d2_12 : decode prog_25_method_1_code 12 = .ok (.putfield 10, 3) := by decide +kernel
theorem d2_15 : decode prog_25_method_1_code 15 = .ok (.aload_n 0, 1) := by decide +kernel
theorem d2_16 : decode prog_25_method_1_code 16 = .ok (.new 7, 3) := by decide +kernel
theorem d2_19 : decode prog_25_method_1_code 19 = .ok (.dup, 1) := by decide +kernel
theorem d2_20 : decode prog_25_method_1_code 20 = .ok (.invokespecial 9, 3) := by decide +kernel
theorem d2_23 : decode prog_25_method_1_code 23 = .ok (.putfield 16, 3) := by decide +kernel
theorem d2_26 : decode prog_25_method_1_code 26 = .ok (.aload_n 0, 1) := by decide +kernel
theorem d2_27 : decode prog_25_method_1_code 27 = .ok (.invokestatic 19, 3) := by decide +kernel
theorem pd__28_29_5bLcom_2fexample_2fbote_2fbote_2fservice_2fSendQueue_24Kind_3b : parseMethodDescriptor "()[Lcom/example/bote/bote/service/SendQueue$Kind;" = some ⟨[], some (.array (.object "com/example/bote/bote/service/SendQueue$Kind"))⟩ := by decide +kernel
theorem d2_30 : decode prog_25_method_1_code 30 = .ok (.arraylength, 1) := by decide +kernel
theorem d2_31 : decode prog_25_method_1_code 31 = .ok (.newarray .int, 2) := by decide +kernel
theorem d2_33 : decode prog_25_method_1_code 33 = .ok (.putfield 25, 3) := by decide +kernel
theorem d2_36 : decode prog_25_method_1_code 36 = .ok (.return_, 1) := by decide +kernel
theorem ef_rm8 (a : Addr) (x : Int32) (m : MethodId) : entryFrame m #[(.ref a)] 1 = mkF m 0 #[.val (.ref a)] [] := by first | (simp [entryFrame, mkF, argsToLocals, Value.category, maxLocals]; done) | rfl
theorem pn_java_lang_Enum_ordinal___I : plainFor (⟨"java/lang/Enum", "ordinal", "()I"⟩ : MethodName) = true := by first | exact plainFor_of_name (by first | (simp [plainName, overriddenIn]; done) | decide +kernel) | decide +kernel
theorem d8_0 : decode jdk_37_method_2_code 0 = .ok (.aload_n 0, 1) := by decide +kernel
theorem d8_1 : decode jdk_37_method_2_code 1 = .ok (.getfield 7, 3) := by decide +kernel
theorem d8_4 : decode jdk_37_method_2_code 4 = .ok (.ireturn, 1) := by decide +kernel
theorem ef_rm7 (a : Addr) (r : Addr) (o : Int32) (mo : Int32) (w : Addr) (kw : ClassId) (x0 : Int32) (x1 : Int32) (x2 : Int32) (m : MethodId) : entryFrame m #[(.ref a), (.ref r)] 2 = mkF m 0 #[.val (.ref a), .val (.ref r)] [] := by first | (simp [entryFrame, mkF, argsToLocals, Value.category, maxLocals]; done) | rfl
theorem pn_com_example_bote_bote_service_SendQueue_isFull__Lcom_example_bote_bote_service_SendQueue_Kind__Z : plainFor (⟨"com/example/bote/bote/service/SendQueue", "isFull", "(Lcom/example/bote/bote/service/SendQueue$Kind;)Z"⟩ : MethodName) = true := by first | exact plainFor_of_name (by first | (simp [plainName, overriddenIn]; done) | decide +kernel) | decide +kernel
theorem d7_0 : decode prog_25_method_3_code 0 = .ok (.aload_n 0, 1) := by decide +kernel
theorem d7_1 : decode prog_25_method_3_code 1 = .ok (.getfield 25, 3) := by decide +kernel
theorem d7_4 : decode prog_25_method_3_code 4 = .ok (.aload_n 1, 1) := by decide +kernel
theorem d7_5 : decode prog_25_method_3_code 5 = .ok (.invokevirtual 39, 3) := by decide +kernel
theorem pd__28_29I : parseMethodDescriptor "()I" = some ⟨[], some .int⟩ := by decide +kernel
theorem d7_8 : decode prog_25_method_3_code 8 = .ok (.iaload, 1) := by decide +kernel
theorem d7_9 : decode prog_25_method_3_code 9 = .ok (.aload_n 1, 1) := by decide +kernel
theorem d7_10 : decode prog_25_method_3_code 10 = .ok (.getfield 43, 3) := by decide +kernel
theorem d7_13 : decode prog_25_method_3_code 13 = .ok (.if_icmp .lt 7, 3) := by decide +kernel
theorem d7_20 : decode prog_25_method_3_code 20 = .ok (.iconst 0, 1) := by decide +kernel
theorem d7_21 : decode prog_25_method_3_code 21 = .ok (.ireturn, 1) := by decide +kernel
theorem ef_rq_add0 (a : Addr) (v : Addr) (r : Addr) (o : Int32) (mo : Int32) (d1 : Addr) (e1 : Addr) (ke1 : ClassId) (d2 : Addr) (e2 : Addr) (ke2 : ClassId) (w : Addr) (kw : ClassId) (x0 : Int32) (x1 : Int32) (x2 : Int32) (m : MethodId) : entryFrame m #[(.ref a), (.ref v), (.ref r)] 4 = mkF m 0 #[.val (.ref a), .val (.ref v), .val (.ref r), .unset] [] := by first | (simp [entryFrame, mkF, argsToLocals, Value.category, maxLocals]; done) | rfl
theorem pn_com_example_bote_bote_service_SendQueue_add__Ljava_lang_Object_Lcom_example_bote_bote_service_SendQueue_Kind__Z : plainFor (⟨"com/example/bote/bote/service/SendQueue", "add", "(Ljava/lang/Object;Lcom/example/bote/bote/service/SendQueue$Kind;)Z"⟩ : MethodName) = true := by first | exact plainFor_of_name (by first | (simp [plainName, overriddenIn]; done) | decide +kernel) | decide +kernel
theorem d10_0 : decode prog_25_method_2_code 0 = .ok (.aload_n 0, 1) := by decide +kernel
theorem d10_1 : decode prog_25_method_2_code 1 = .ok (.aload_n 2, 1) := by decide +kernel
theorem d10_2 : decode prog_25_method_2_code 2 = .ok (.invokevirtual 29, 3) := by decide +kernel
theorem pd__28Lcom_2fexample_2fbote_2fbote_2fservice_2fSendQueue_24Kind_3b_29Z : parseMethodDescriptor "(Lcom/example/bote/bote/service/SendQueue$Kind;)Z" = some ⟨[(.object "com/example/bote/bote/service/SendQueue$Kind")], some .boolean⟩ := by decide +kernel
theorem d10_5 : decode prog_25_method_2_code 5 = .ok (.ifCond .ne 7, 3) := by decide +kernel
theorem d10_8 : decode prog_25_method_2_code 8 = .ok (.iconst 1, 1) := by decide +kernel
theorem d10_9 : decode prog_25_method_2_code 9 = .ok (.goto 4, 3) := by decide +kernel
theorem d10_13 : decode prog_25_method_2_code 13 = .ok (.istore_n 3, 1) := by decide +kernel
theorem d10_14 : decode prog_25_method_2_code 14 = .ok (.iload_n 3, 1) := by decide +kernel
theorem d10_15 : decode prog_25_method_2_code 15 = .ok (.ifCond .eq 38, 3) := by decide +kernel
theorem d10_18 : decode prog_25_method_2_code 18 = .ok (.aload_n 0, 1) := by decide +kernel
theorem d10_19 : decode prog_25_method_2_code 19 = .ok (.getfield 10, 3) := by decide +kernel
theorem d10_22 : decode prog_25_method_2_code 22 = .ok (.aload_n 1, 1) := by decide +kernel
theorem d10_23 : decode prog_25_method_2_code 23 = .ok (.invokeinterface 33 2, 5) := by decide +kernel
theorem pd__28Ljava_2flang_2fObject_3b_29Z : parseMethodDescriptor "(Ljava/lang/Object;)Z" = some ⟨[(.object "java/lang/Object")], some .boolean⟩ := by decide +kernel
theorem d10_28 : decode prog_25_method_2_code 28 = .ok (.pop, 1) := by decide +kernel
theorem d10_29 : decode prog_25_method_2_code 29 = .ok (.aload_n 0, 1) := by decide +kernel
theorem d10_30 : decode prog_25_method_2_code 30 = .ok (.getfield 16, 3) := by decide +kernel
theorem d10_33 : decode prog_25_method_2_code 33 = .ok (.aload_n 2, 1) := by decide +kernel
theorem d10_34 : decode prog_25_method_2_code 34 = .ok (.invokeinterface 33 2, 5) := by decide +kernel
theorem d10_39 : decode prog_25_method_2_code 39 = .ok (.pop, 1) := by decide +kernel
theorem d10_40 : decode prog_25_method_2_code 40 = .ok (.aload_n 0, 1) := by decide +kernel
theorem d10_41 : decode prog_25_method_2_code 41 = .ok (.getfield 25, 3) := by decide +kernel
theorem d10_44 : decode prog_25_method_2_code 44 = .ok (.aload_n 2, 1) := by decide +kernel
theorem d10_45 : decode prog_25_method_2_code 45 = .ok (.invokevirtual 39, 3) := by decide +kernel
theorem d10_48 : decode prog_25_method_2_code 48 = .ok (.dup2, 1) := by decide +kernel
theorem d10_49 : decode prog_25_method_2_code 49 = .ok (.iaload, 1) := by decide +kernel
theorem d10_50 : decode prog_25_method_2_code 50 = .ok (.iconst 1, 1) := by decide +kernel
theorem d10_51 : decode prog_25_method_2_code 51 = .ok (.iadd, 1) := by decide +kernel
theorem d10_52 : decode prog_25_method_2_code 52 = .ok (.iastore, 1) := by decide +kernel
theorem d10_53 : decode prog_25_method_2_code 53 = .ok (.iload_n 3, 1) := by decide +kernel
theorem d10_54 : decode prog_25_method_2_code 54 = .ok (.ireturn, 1) := by decide +kernel
theorem ef_rq_add1 (a : Addr) (v : Addr) (r : Addr) (o : Int32) (mo : Int32) (d1 : Addr) (e1 : Addr) (ke1 : ClassId) (d2 : Addr) (e2 : Addr) (ke2 : ClassId) (w : Addr) (kw : ClassId) (x0 : Int32) (x1 : Int32) (x2 : Int32) (i0 : Addr) (k0 : Addr) (m : MethodId) : entryFrame m #[(.ref a), (.ref v), (.ref r)] 4 = mkF m 0 #[.val (.ref a), .val (.ref v), .val (.ref r), .unset] [] := by first | (simp [entryFrame, mkF, argsToLocals, Value.category, maxLocals]; done) | rfl
theorem ef_rm14 (a : Addr) (r : Addr) (o : Int32) (d1 : Addr) (e1 : Addr) (ke1 : ClassId) (d2 : Addr) (e2 : Addr) (ke2 : ClassId) (w : Addr) (kw : ClassId) (x0 : Int32) (x1 : Int32) (x2 : Int32) (i0 : Addr) (i1 : Addr) (k1 : Addr) (m : MethodId) : entryFrame m #[(.ref a)] 2 = mkF m 0 #[.val (.ref a), .unset] [] := by first | (simp [entryFrame, mkF, argsToLocals, Value.category, maxLocals]; done) | rfl
theorem pn_com_example_bote_bote_service_SendQueue_poll___Ljava_lang_Object_ : plainFor (⟨"com/example/bote/bote/service/SendQueue", "poll", "()Ljava/lang/Object;"⟩ : MethodName) = true := by first | exact plainFor_of_name (by first | (simp [plainName, overriddenIn]; done) | decide +kernel) | decide +kernel
theorem d14_0 : decode prog_25_method_5_code 0 = .ok (.aload_n 0, 1) := by decide +kernel
theorem d14_1 : decode prog_25_method_5_code 1 = .ok (.getfield 10, 3) := by decide +kernel
theorem d14_4 : decode prog_25_method_5_code 4 = .ok (.invokeinterface 51 1, 5) := by decide +kernel
theorem d14_9 : decode prog_25_method_5_code 9 = .ok (.astore_n 1, 1) := by decide +kernel
theorem d14_10 : decode prog_25_method_5_code 10 = .ok (.aload_n 1, 1) := by decide +kernel
theorem d14_11 : decode prog_25_method_5_code 11 = .ok (.ifnull 27, 3) := by decide +kernel
theorem d14_14 : decode prog_25_method_5_code 14 = .ok (.aload_n 0, 1) := by decide +kernel
theorem d14_15 : decode prog_25_method_5_code 15 = .ok (.getfield 25, 3) := by decide +kernel
theorem d14_18 : decode prog_25_method_5_code 18 = .ok (.aload_n 0, 1) := by decide +kernel
theorem d14_19 : decode prog_25_method_5_code 19 = .ok (.getfield 16, 3) := by decide +kernel
theorem d14_22 : decode prog_25_method_5_code 22 = .ok (.invokeinterface 54 1, 5) := by decide +kernel
theorem d14_27 : decode prog_25_method_5_code 27 = .ok (.checkcast 20, 3) := by decide +kernel
theorem d14_30 : decode prog_25_method_5_code 30 = .ok (.invokevirtual 39, 3) := by decide +kernel
theorem d14_33 : decode prog_25_method_5_code 33 = .ok (.dup2, 1) := by decide +kernel
theorem d14_34 : decode prog_25_method_5_code 34 = .ok (.iaload, 1) := by decide +kernel
theorem d14_35 : decode prog_25_method_5_code 35 = .ok (.iconst 1, 1) := by decide +kernel
theorem d14_36 : decode prog_25_method_5_code 36 = .ok (.isub, 1) := by decide +kernel
theorem d14_37 : decode prog_25_method_5_code 37 = .ok (.iastore, 1) := by decide +kernel
theorem d14_38 : decode prog_25_method_5_code 38 = .ok (.aload_n 1, 1) := by decide +kernel
theorem d14_39 : decode prog_25_method_5_code 39 = .ok (.areturn, 1) := by decide +kernel
theorem ef_rm21 (a : Addr) (m : MethodId) : entryFrame m #[(.ref a)] 1 = mkF m 0 #[.val (.ref a)] [] := by first | (simp [entryFrame, mkF, argsToLocals, Value.category, maxLocals]; done) | rfl
theorem pn_java_lang_Number__init____V : plainFor (⟨"java/lang/Number", "<init>", "()V"⟩ : MethodName) = true := by first | exact plainFor_of_name (by first | (simp [plainName, overriddenIn]; done) | decide +kernel) | decide +kernel
theorem d21_0 : decode jdk_18_method_1_code 0 = .ok (.aload_n 0, 1) := by decide +kernel
theorem d21_1 : decode jdk_18_method_1_code 1 = .ok (.invokespecial 1, 3) := by decide +kernel
theorem d21_4 : decode jdk_18_method_1_code 4 = .ok (.return_, 1) := by decide +kernel
theorem ef_rm20 (a : Addr) (x : Int32) (y : Int32) (m : MethodId) : entryFrame m #[(.ref a), (.int x)] 2 = mkF m 0 #[.val (.ref a), .val (.int x)] [] := by first | (simp [entryFrame, mkF, argsToLocals, Value.category, maxLocals]; done) | rfl
theorem pn_java_lang_Integer__init___I_V : plainFor (⟨"java/lang/Integer", "<init>", "(I)V"⟩ : MethodName) = true := by first | exact plainFor_of_name (by first | (simp [plainName, overriddenIn]; done) | decide +kernel) | decide +kernel
theorem d20_0 : decode jdk_33_method_23_code 0 = .ok (.aload_n 0, 1) := by decide +kernel
theorem d20_1 : decode jdk_33_method_23_code 1 = .ok (.invokespecial 202, 3) := by decide +kernel
theorem d20_4 : decode jdk_33_method_23_code 4 = .ok (.aload_n 0, 1) := by decide +kernel
theorem d20_5 : decode jdk_33_method_23_code 5 = .ok (.iload_n 1, 1) := by decide +kernel
theorem d20_6 : decode jdk_33_method_23_code 6 = .ok (.putfield 205, 3) := by decide +kernel
theorem d20_9 : decode jdk_33_method_23_code 9 = .ok (.return_, 1) := by decide +kernel
theorem ef_rm9 (x : Int32) (m : MethodId) : entryFrame m #[(.int x)] 1 = mkF m 0 #[.val (.int x)] [] := by first | (simp [entryFrame, mkF, argsToLocals, Value.category, maxLocals]; done) | rfl
theorem pn_java_lang_Integer_valueOf__I_Ljava_lang_Integer_ : plainFor (⟨"java/lang/Integer", "valueOf", "(I)Ljava/lang/Integer;"⟩ : MethodName) = true := by first | exact plainFor_of_name (by first | (simp [plainName, overriddenIn]; done) | decide +kernel) | decide +kernel
theorem d9_0 : decode jdk_33_method_22_code 0 = .ok (.iload_n 0, 1) := by decide +kernel
theorem d9_1 : decode jdk_33_method_22_code 1 = .ok (.bipush (-128), 2) := by decide +kernel
theorem d9_3 : decode jdk_33_method_22_code 3 = .ok (.if_icmp .lt 20, 3) := by decide +kernel
theorem d9_23 : decode jdk_33_method_22_code 23 = .ok (.new 1, 3) := by decide +kernel
theorem d9_26 : decode jdk_33_method_22_code 26 = .ok (.dup, 1) := by decide +kernel
theorem d9_27 : decode jdk_33_method_22_code 27 = .ok (.iload_n 0, 1) := by decide +kernel
theorem d9_28 : decode jdk_33_method_22_code 28 = .ok (.invokespecial 199, 3) := by decide +kernel
theorem pd__28I_29V : parseMethodDescriptor "(I)V" = some ⟨[.int], none⟩ := by decide +kernel
theorem d9_31 : decode jdk_33_method_22_code 31 = .ok (.areturn, 1) := by decide +kernel
theorem d9_6 : decode jdk_33_method_22_code 6 = .ok (.iload_n 0, 1) := by decide +kernel
theorem d9_7 : decode jdk_33_method_22_code 7 = .ok (.getstatic 191, 3) := by decide +kernel
theorem d9_10 : decode jdk_33_method_22_code 10 = .ok (.if_icmp .gt 13, 3) := by decide +kernel
theorem d9_13 : decode jdk_33_method_22_code 13 = .ok (.getstatic 195, 3) := by decide +kernel
theorem d9_16 : decode jdk_33_method_22_code 16 = .ok (.iload_n 0, 1) := by decide +kernel
theorem d9_17 : decode jdk_33_method_22_code 17 = .ok (.sipush 128, 3) := by decide +kernel
theorem d9_20 : decode jdk_33_method_22_code 20 = .ok (.iadd, 1) := by decide +kernel
theorem d9_21 : decode jdk_33_method_22_code 21 = .ok (.aaload, 1) := by decide +kernel
theorem d9_22 : decode jdk_33_method_22_code 22 = .ok (.areturn, 1) := by decide +kernel
theorem ef_rm0 (pa : Int32) (pb : Int32) (pc_ : Int32) (pd : Int32) (pi : Int32) (pf : Int32) (m : MethodId) : entryFrame m #[(.int pa), (.int pb), (.int pc_), (.int pd), (.int pi), (.int pf)] maxLocals = mkF m 0 #[.val (.int pa), .val (.int pb), .val (.int pc_), .val (.int pd), .val (.int pi), .val (.int pf), .unset, .unset, .unset, .unset, .unset, .unset, .unset, .unset, .unset, .unset, .unset] [] := by first | (simp [entryFrame, mkF, argsToLocals, Value.category, maxLocals]; done) | rfl
theorem pn_com_example_bote_bote_service_SendQueueIsFullPinLaw_law__IIIIII_Z : plainFor (⟨"com/example/bote/bote/service/SendQueueIsFullPinLaw", "law", "(IIIIII)Z"⟩ : MethodName) = true := by first | exact plainFor_of_name (by first | (simp [plainName, overriddenIn]; done) | decide +kernel) | decide +kernel
theorem pd__28I_29Lcom_2fexample_2fbote_2fbote_2fservice_2fSendQueue_24Kind_3b : parseMethodDescriptor "(I)Lcom/example/bote/bote/service/SendQueue$Kind;" = some ⟨[.int], some (.object "com/example/bote/bote/service/SendQueue$Kind")⟩ := by decide +kernel
theorem pd__28I_29Ljava_2flang_2fInteger_3b : parseMethodDescriptor "(I)Ljava/lang/Integer;" = some ⟨[.int], some (.object "java/lang/Integer")⟩ := by decide +kernel
theorem pd__28Ljava_2flang_2fObject_3bLcom_2fexample_2fbote_2fbote_2fservice_2fSendQueue_24Kind_3b_29Z : parseMethodDescriptor "(Ljava/lang/Object;Lcom/example/bote/bote/service/SendQueue$Kind;)Z" = some ⟨[(.object "java/lang/Object"), (.object "com/example/bote/bote/service/SendQueue$Kind")], some .boolean⟩ := by decide +kernel
set_option maxRecDepth 65536
set_option maxHeartbeats 40000000
theorem rm1 (l : Launch) (Z : State) (a0 : Array Value) (hw : ∀ d ∈ tables_1, d.before a0 Z = true) (n0 : Nat) (h0 : Heap) (hWd : OWorld Z a0) (wc : List Jvm.Cond) (O0 : Old Z n0 h0) (x : Int32)  :
    OMet l Z own_EL n0 (⟨"com/example/bote/bote/service/SendQueueIsFullPinLaw", "pick", "(I)Lcom/example/bote/bote/service/SendQueue$Kind;"⟩ : MethodName) (Jvm.Cond.code (⟨"com/example/bote/bote/service/SendQueueIsFullPinLaw", "pick", "(I)Lcom/example/bote/bote/service/SendQueue$Kind;"⟩ : MethodName) method_2_code 2 (some (.object "com/example/bote/bote/service/SendQueue$Kind")) :: wc) ({ frames := 0, cells := 1, slots := 3, locals := 0 } : Room) #[(.int x)] h0 [] (fun vq hq => ∃ (r : Addr) (o : Int32) (mo : Int32), vq = some (.ref r) ∧ r < n0 ∧ Exa Z hq r "com/example/bote/bote/service/SendQueue$Kind" ∧ Fld Z hq r "java/lang/Enum" "ordinal" "I" (.int o) ∧ Fld Z hq r "com/example/bote/bote/service/SendQueue$Kind" "most" "I" (.int mo) ∧ (o = 0 ∨ o = 1 ∨ o = 2) ∧ ¬ mo < (100 : Int32)) := by
  refine own_enter #[.val (.int x), .unset] pn_com_example_bote_bote_service_SendQueueIsFullPinLaw_pick__I_Lcom_example_bote_bote_service_SendQueue_Kind_ (ef_rm1 x) hWd.1 O0 all0 ?_
  intro p e s m below meth c T0 X0 hnm hret
  refine og_iconst X0 1 (3 : Int32) d1_0 rfl rfl ?_
  refine own_anew X0 4 d1_1 (ow hw 4 rfl) (ow hw 5 rfl) (by decide) (cap := 3) (by decide) (by decide) (by decide) (by decide) rfl ?_
  intro T1 h1 b1 kb1 X1 K1 G1 U1 A1 O1
  have f2 : Arv Z h1 b1 kb1 (.object "com/example/bote/bote/service/SendQueue$Kind") (3 : Int32) [.null, .null, .null] .null := A1
  refine og_dup X1 5 d1_4 rfl rfl ?_
  refine og_iconst X1 6 (0 : Int32) d1_5 rfl rfl ?_
  refine own_getS X1 9 d1_6 (host := "") (Or.inl (ow hw 6 rfl)) Via.refl hWd.2.2.2.1.1 rfl ?_
  intro T3 X4
  have f6 := (hWd.2.2.2.1.2.1).ext X4.old.2
  refine own_stR X4 10 d1_9 f2 rfl rfl (own_sto f2 O1 (Ins.self f6)) (by decide) (by decide) (i := 0) (by decide) (Nat.le_of_ble_eq_true rfl) (om 0 rfl) rfl ?_
  intro T5 h5 X5 W5 K5 A5
  have f7 : Arv Z h5 b1 kb1 (.object "com/example/bote/bote/service/SendQueue$Kind") (3 : Int32) [(.ref (own_kS Z)), .null, .null] .null := A5
  refine og_dup X5 11 d1_10 rfl rfl ?_
  refine og_iconst X5 12 (1 : Int32) d1_11 rfl rfl ?_
  refine own_getS X5 15 d1_12 (host := "") (Or.inl (ow hw 10 rfl)) Via.refl hWd.2.2.2.2.1.1 rfl ?_
  intro T8 X9
  have f11 := (hWd.2.2.2.2.1.2.1).ext X9.old.2
  refine own_stR X9 16 d1_15 f7 rfl rfl (own_sto f7 O1 (Ins.self f11)) (by decide) (by decide) (i := 1) (by decide) (Nat.le_of_ble_eq_true rfl) (om 0 rfl) rfl ?_
  intro T10 h10 X10 W10 K10 A10
  have f12 : Arv Z h10 b1 kb1 (.object "com/example/bote/bote/service/SendQueue$Kind") (3 : Int32) [(.ref (own_kS Z)), (.ref (own_kO Z)), .null] .null := A10
  refine og_dup X10 17 d1_16 rfl rfl ?_
  refine og_iconst X10 18 (2 : Int32) d1_17 rfl rfl ?_
  refine own_getS X10 21 d1_18 (host := "") (Or.inl (ow hw 12 rfl)) Via.refl hWd.2.2.2.2.2.1.1 rfl ?_
  intro T13 X14
  have f16 := (hWd.2.2.2.2.2.1.2.1).ext X14.old.2
  refine own_stR X14 22 d1_21 f12 rfl rfl (own_sto f12 O1 (Ins.self f16)) (by decide) (by decide) (i := 2) (by decide) (Nat.le_of_ble_eq_true rfl) (om 0 rfl) rfl ?_
  intro T15 h15 X15 W15 K15 A15
  have f17 : Arv Z h15 b1 kb1 (.object "com/example/bote/bote/service/SendQueue$Kind") (3 : Int32) [(.ref (own_kS Z)), (.ref (own_kO Z)), (.ref (own_kR Z))] .null := A15
  refine og_astoreN X15 23 #[.val (.int x), .val (.ref b1)] d1_22 rfl rfl rfl ?_
  refine og_aloadN X15 24 d1_23 rfl rfl rfl ?_
  refine og_iloadN X15 25 d1_24 rfl rfl ?_
  refine own_ldcI X15 27 (v := (2147483647 : Int32)) d1_25 (ow hw 14 rfl) rfl ?_
  refine og_iand X15 28 d1_27 rfl ?_
  refine og_iconst X15 29 (3 : Int32) d1_28 rfl rfl ?_
  refine og_irem X15 30 d1_29 (by decide) rfl ?_
  rcases own_mod3 x with eQ | eQ | eQ
  · -- 0
    rw [eQ]
    refine own_ldR X15 31 d1_30 f17 rfl (by decide) (by decide) rfl rfl ?_
    have f18 := f6.keep K5
    have f19 := f18.keep K10
    have f20 := f19.keep K15
    have f21 := (hWd.2.2.2.1.2.2.1).ext X15.old.2
    have f22 := (hWd.2.2.2.1.2.2.2).ext X15.old.2
    refine own_retA X15 d1_31 hret rfl rfl (by decide) (by decide) ?_
    exact ⟨_, _, _, rfl, (X15.old.1 ▸ (hWd.2.2.2.1.2.1).lt), f20, f21, f22, by decide, by decide⟩
  · -- 1
    rw [eQ]
    refine own_ldR X15 31 d1_30 f17 rfl (by decide) (by decide) rfl rfl ?_
    have f23 := f11.keep K10
    have f24 := f23.keep K15
    have f25 := (hWd.2.2.2.2.1.2.2.1).ext X15.old.2
    have f26 := (hWd.2.2.2.2.1.2.2.2).ext X15.old.2
    refine own_retA X15 d1_31 hret rfl rfl (by decide) (by decide) ?_
    exact ⟨_, _, _, rfl, (X15.old.1 ▸ (hWd.2.2.2.2.1.2.1).lt), f24, f25, f26, by decide, by decide⟩
  · -- 2
    rw [eQ]
    refine own_ldR X15 31 d1_30 f17 rfl (by decide) (by decide) rfl rfl ?_
    have f27 := f16.keep K15
    have f28 := (hWd.2.2.2.2.2.1.2.2.1).ext X15.old.2
    have f29 := (hWd.2.2.2.2.2.1.2.2.2).ext X15.old.2
    refine own_retA X15 d1_31 hret rfl rfl (by decide) (by decide) ?_
    exact ⟨_, _, _, rfl, (X15.old.1 ▸ (hWd.2.2.2.2.2.1.2.1).lt), f27, f28, f29, by decide, by decide⟩
theorem rm5 (l : Launch) (Z : State) (a0 : Array Value) (hw : ∀ d ∈ tables_1, d.before a0 Z = true) (n0 : Nat) (h0 : Heap) (hWd : OWorld Z a0) (wc : List Jvm.Cond) (O0 : Old Z n0 h0) (a : Addr)  :
    OMet l Z own_EL n0 (⟨"java/util/AbstractCollection", "<init>", "()V"⟩ : MethodName) (Jvm.Cond.code (⟨"java/util/AbstractCollection", "<init>", "()V"⟩ : MethodName) jdk_22_method_1_code 1 none :: wc) ({ frames := 1, cells := 0, slots := 0, locals := 12 } : Room) #[(.ref a)] h0 [] (fun vq hq => vq = none) := by
  refine own_enter #[.val (.ref a)] pn_java_util_AbstractCollection__init____V (ef_rm5 a) hWd.1 O0 all0 ?_
  intro p e s m below meth c T0 X0 hnm hret
  refine og_aloadN X0 1 d5_0 rfl rfl rfl ?_
  refine own_obj0 X0 4 (a := a) d5_1 (ow hw 36 rfl) (ow hw 22 rfl) (ow hw 23 rfl) rfl (W := 0) rfl (by decide) (by decide) rfl ?_
  intro T1 X2
  refine own_retV X2 d5_4 hret (by decide) (by decide) ?_
  exact rfl
theorem rm4 (l : Launch) (Z : State) (a0 : Array Value) (hw : ∀ d ∈ tables_1, d.before a0 Z = true) (n0 : Nat) (h0 : Heap) (hWd : OWorld Z a0) (wc : List Jvm.Cond) (O0 : Old Z n0 h0) (a : Addr) (y : Value) (x : Int32) (z : Int32) (q0 : Exa Z h0 a "java/util/ArrayDeque") (q1 : Fld Z h0 a "java/util/ArrayDeque" "elements" "[Ljava/lang/Object;" y) (q2 : Fld Z h0 a "java/util/ArrayDeque" "head" "I" (.int x)) (q3 : Fld Z h0 a "java/util/ArrayDeque" "tail" "I" (.int z)) (g0 : n0 ≤ a ∧ a < h0.size) :
    OMet l Z own_EL n0 (⟨"java/util/ArrayDeque", "<init>", "()V"⟩ : MethodName) (Jvm.Cond.code (⟨"java/util/ArrayDeque", "<init>", "()V"⟩ : MethodName) jdk_21_method_3_code 1 none :: wc) ({ frames := 2, cells := 1, slots := 17, locals := 24 } : Room) #[(.ref a)] h0 [a] (fun vq hq => ∃ (el : Addr) (ke : ClassId), vq = none ∧ h0.size ≤ el ∧ Fld Z hq a "java/util/ArrayDeque" "elements" "[Ljava/lang/Object;" (.ref el) ∧ Fld Z hq a "java/util/ArrayDeque" "head" "I" (.int x) ∧ Fld Z hq a "java/util/ArrayDeque" "tail" "I" (.int z) ∧ Arv Z hq el ke (.object "java/lang/Object") (17 : Int32) [.null, .null, .null, .null, .null, .null, .null, .null, .null, .null, .null, .null, .null, .null, .null, .null, .null] .null ∧ Ovr Z ke "java/lang/Object") := by
  refine own_enter #[.val (.ref a)] pn_java_util_ArrayDeque__init____V (ef_rm4 a y x z) hWd.1 O0 (allS g0 all0) ?_
  intro p e s m below meth c T0 X0 hnm hret
  refine og_aloadN X0 1 d4_0 rfl rfl rfl ?_
  refine own_spec X0 4 (a := a) (argsL := []) (rest := []) d4_1 rfl (rm5 l Z a0 hw n0 h0 hWd [] X0.old a  ) (ow hw 30 rfl) (ow hw 31 rfl) (ow hw 34 rfl) (ow hw 35 rfl) (by decide) (lenOf pd__28_29V rfl) rfl rfl rfl (W := 0) rfl (by decide) (by decide) (by decide) (by decide) all0 rfl ?_
  intro T1 h1 v1 X1 K1 hQ1
  obtain rfl := hQ1
  show OGo _ _ _ _ T1 (mkF m 4 #[.val (.ref a)] [])
  refine og_aloadN X1 5 d4_4 rfl rfl rfl ?_
  refine og_bipush X1 7 (17 : Int32) d4_5 rfl rfl ?_
  refine own_anew X1 10 d4_7 (ow hw 37 rfl) (ow hw 38 rfl) (by decide) (cap := 17) (by decide) (by decide) (by decide) (by decide) rfl ?_
  intro T2 h2 b2 kb2 X2 K2 G2 U2 A2 O2
  have f3 : Arv Z h2 b2 kb2 (.object "java/lang/Object") (17 : Int32) [.null, .null, .null, .null, .null, .null, .null, .null, .null, .null, .null, .null, .null, .null, .null, .null, .null] .null := A2
  have f4 := q1.keep K1 nin0
  have f5 := f4.keep K2 nin0
  have f6 := q0.keep K1
  have f7 := f6.keep K2
  have f8 := q2.keep K1 nin0
  have f9 := f8.keep K2 nin0
  have f10 := q3.keep K1 nin0
  have f11 := f10.keep K2 nin0
  refine own_put X2 13 d4_10 (host := "") (Or.inl (ow hw 39 rfl)) Via.refl f5 f7 (Or.inl (ow hw 40 rfl)) (ow hw 25 rfl) (ty := (.array (.object "java/lang/Object"))) (by decide) rfl rfl (om 1 rfl) rfl ?_
  intro T12 h12 X12 W12 K12 F12
  have f13 := Fld.other W12 f9 (Or.inr (slot_ne (Or.inl (ow hw 110 rfl)) (Or.inl (ow hw 40 rfl)) (by decide) (t := .int) (t' := (.array (.object "java/lang/Object"))) (by decide) (by decide)))
  have f14 := Fld.other W12 f11 (Or.inr (slot_ne (Or.inl (ow hw 107 rfl)) (Or.inl (ow hw 40 rfl)) (by decide) (t := .int) (t' := (.array (.object "java/lang/Object"))) (by decide) (by decide)))
  have f15 := f3.keep K12 (ninS (Nat.ne_of_gt (Nat.lt_of_lt_of_le (Nat.lt_of_lt_of_le q0.lt K1.1) G2)) nin0)
  refine own_retV X12 d4_13 hret (by decide) (by decide) ?_
  exact ⟨_, _, rfl, (Nat.le_trans K1.1 G2), F12, f13, f14, f15, O2⟩
theorem rd_inc0 (l : Launch) (Z : State) (a0 : Array Value) (hw : ∀ d ∈ tables_1, d.before a0 Z = true) (n0 : Nat) (h0 : Heap) (hWd : OWorld Z a0) (wc : List Jvm.Cond) (O0 : Old Z n0 h0)   :
    OMet l Z own_EL n0 (⟨"java/util/ArrayDeque", "inc", "(II)I"⟩ : MethodName) (Jvm.Cond.code (⟨"java/util/ArrayDeque", "inc", "(II)I"⟩ : MethodName) jdk_21_method_6_code 2 (some .int) :: wc) ({ frames := 0, cells := 0, slots := 0, locals := 0 } : Room) #[(.int 0), (.int 17)] h0 [] (fun vq hq => vq = some (.int 1)) := by
  refine own_enter #[.val (.int 0), .val (.int 17)] pn_java_util_ArrayDeque_inc__II_I (ef_rd_inc0) hWd.1 O0 all0 ?_
  intro p e s m below meth c T0 X0 hnm hret
  refine og_iinc X0 3 #[.val (.int 1), .val (.int 17)] d13_0 rfl rfl rfl ?_
  refine og_iloadN X0 4 d13_3 rfl rfl ?_
  refine og_iloadN X0 5 d13_4 rfl rfl ?_
  refine og_icmpY X0 10 d13_5 (XT.ii_lt_t (by decide)) (by decide) (by decide) ?_
  refine og_iloadN X0 11 d13_10 rfl rfl ?_
  refine own_retI X0 d13_11 hret (by decide) (by decide) ?_
  exact rfl
theorem rd_inc1 (l : Launch) (Z : State) (a0 : Array Value) (hw : ∀ d ∈ tables_1, d.before a0 Z = true) (n0 : Nat) (h0 : Heap) (hWd : OWorld Z a0) (wc : List Jvm.Cond) (O0 : Old Z n0 h0)   :
    OMet l Z own_EL n0 (⟨"java/util/ArrayDeque", "inc", "(II)I"⟩ : MethodName) (Jvm.Cond.code (⟨"java/util/ArrayDeque", "inc", "(II)I"⟩ : MethodName) jdk_21_method_6_code 2 (some .int) :: wc) ({ frames := 0, cells := 0, slots := 0, locals := 0 } : Room) #[(.int 1), (.int 17)] h0 [] (fun vq hq => vq = some (.int 2)) := by
  refine own_enter #[.val (.int 1), .val (.int 17)] pn_java_util_ArrayDeque_inc__II_I (ef_rd_inc1) hWd.1 O0 all0 ?_
  intro p e s m below meth c T0 X0 hnm hret
  refine og_iinc X0 3 #[.val (.int 2), .val (.int 17)] d13_0 rfl rfl rfl ?_
  refine og_iloadN X0 4 d13_3 rfl rfl ?_
  refine og_iloadN X0 5 d13_4 rfl rfl ?_
  refine og_icmpY X0 10 d13_5 (XT.ii_lt_t (by decide)) (by decide) (by decide) ?_
  refine og_iloadN X0 11 d13_10 rfl rfl ?_
  refine own_retI X0 d13_11 hret (by decide) (by decide) ?_
  exact rfl
theorem rd_ali0 (l : Launch) (Z : State) (a0 : Array Value) (hw : ∀ d ∈ tables_1, d.before a0 Z = true) (n0 : Nat) (h0 : Heap) (hWd : OWorld Z a0) (wc : List Jvm.Cond) (O0 : Old Z n0 h0) (a : Addr) (el : Addr) (ke : ClassId) (v : Addr) (q0 : Exa Z h0 a "java/util/ArrayDeque") (q1 : Fld Z h0 a "java/util/ArrayDeque" "elements" "[Ljava/lang/Object;" (.ref el)) (q2 : Fld Z h0 a "java/util/ArrayDeque" "head" "I" (.int 0)) (q3 : Fld Z h0 a "java/util/ArrayDeque" "tail" "I" (.int 0)) (q4 : Arv Z h0 el ke (.object "java/lang/Object") (17 : Int32) [.null, .null, .null, .null, .null, .null, .null, .null, .null, .null, .null, .null, .null, .null, .null, .null, .null] .null) (q5 : Ovr Z ke "java/lang/Object") (q6 : Exa Z h0 v "java/lang/Integer") (g0 : n0 ≤ a ∧ a < h0.size) (g1 : n0 ≤ el ∧ el < h0.size) :
    OMet l Z own_EL n0 (⟨"java/util/ArrayDeque", "addLast", "(Ljava/lang/Object;)V"⟩ : MethodName) (Jvm.Cond.code (⟨"java/util/ArrayDeque", "addLast", "(Ljava/lang/Object;)V"⟩ : MethodName) jdk_21_method_13_code 3 none :: wc) ({ frames := 1, cells := 0, slots := 0, locals := 15 } : Room) #[(.ref a), (.ref v)] h0 [a, el] (fun vq hq => vq = none ∧ Fld Z hq a "java/util/ArrayDeque" "elements" "[Ljava/lang/Object;" (.ref el) ∧ Fld Z hq a "java/util/ArrayDeque" "head" "I" (.int 0) ∧ Fld Z hq a "java/util/ArrayDeque" "tail" "I" (.int 1) ∧ Arv Z hq el ke (.object "java/lang/Object") (17 : Int32) [(.ref v), .null, .null, .null, .null, .null, .null, .null, .null, .null, .null, .null, .null, .null, .null, .null, .null] .null) := by
  refine own_enter #[.val (.ref a), .val (.ref v), .unset] pn_java_util_ArrayDeque_addLast__Ljava_lang_Object__V (ef_rd_ali0 a el ke v) hWd.1 O0 (allS g0 (allS g1 all0)) ?_
  intro p e s m below meth c T0 X0 hnm hret
  refine og_aloadN X0 1 d12_0 rfl rfl rfl ?_
  refine og_nonnullY X0 12 d12_1 (by decide) (by decide) ?_
  refine og_aloadN X0 13 d12_12 rfl rfl rfl ?_
  refine own_get X0 16 d12_13 (host := "") (Or.inl (ow hw 39 rfl)) Via.refl q1 rfl ?_
  intro T1 X2
  refine og_astoreN X2 17 #[.val (.ref a), .val (.ref v), .val (.ref el)] d12_16 rfl rfl rfl ?_
  refine og_aloadN X2 18 d12_17 rfl rfl rfl ?_
  refine og_aloadN X2 19 d12_18 rfl rfl rfl ?_
  refine own_get X2 22 d12_19 (host := "") (Or.inl (ow hw 106 rfl)) Via.refl q3 rfl ?_
  intro T3 X4
  refine og_aloadN X4 23 d12_22 rfl rfl rfl ?_
  refine own_stR X4 24 d12_23 q4 rfl rfl (own_sto q4 q5 (Ins.of_exa q6 (ow hw 108 rfl))) (by decide) (by decide) (i := 0) (by decide) (Nat.le_of_ble_eq_true rfl) (om 1 rfl) rfl ?_
  intro T5 h5 X5 W5 K5 A5
  have f6 : Arv Z h5 el ke (.object "java/lang/Object") (17 : Int32) [(.ref v), .null, .null, .null, .null, .null, .null, .null, .null, .null, .null, .null, .null, .null, .null, .null, .null] .null := A5
  refine og_aloadN X5 25 d12_24 rfl rfl rfl ?_
  have f7 := q2.keep K5 (ninS (own_neA (q0.keep K5) (ow hw 25 rfl) f6) nin0)
  refine own_get X5 28 d12_25 (host := "") (Or.inl (ow hw 109 rfl)) Via.refl f7 rfl ?_
  intro T8 X9
  refine og_aloadN X9 29 d12_28 rfl rfl rfl ?_
  refine og_aloadN X9 30 d12_29 rfl rfl rfl ?_
  have f10 := q3.keep K5 (ninS (own_neA (q0.keep K5) (ow hw 25 rfl) f6) nin0)
  refine own_get X9 33 d12_30 (host := "") (Or.inl (ow hw 106 rfl)) Via.refl f10 rfl ?_
  intro T11 X12
  refine og_aloadN X12 34 d12_33 rfl rfl rfl ?_
  refine own_len X12 35 d12_34 f6 rfl ?_
  refine own_stat X12 38 (argsL := [(.int 0), (.int 17)]) (rest := [(.ref a), (.int 0)]) d12_35 (rd_inc0 l Z a0 hw n0 h5 hWd [] X12.old   ) (ow hw 111 rfl) (ow hw 112 rfl) (ow hw 26 rfl) (ow hw 113 rfl) (by decide) (lenOf pd__28II_29I rfl) rfl rfl rfl (W := 2) rfl (by decide) (by decide) (by decide) (by decide) all0 rfl ?_
  intro T13 h13 v13 X13 K13 hQ13
  obtain rfl := hQ13
  show OGo _ _ _ _ T13 (mkF m 38 #[.val (.ref a), .val (.ref v), .val (.ref el)] [(.int 1), (.ref a), (.int 0)])
  refine og_dupX1 X13 39 d12_38 rfl rfl rfl ?_
  have f14 := f10.keep K13 nin0
  have f15 := q0.keep K5
  have f16 := f15.keep K13
  have f17 := q1.keep K5 (ninS (own_neA f15 (ow hw 25 rfl) f6) nin0)
  have f18 := f17.keep K13 nin0
  have f19 := f7.keep K13 nin0
  refine own_put X13 42 d12_39 (host := "") (Or.inl (ow hw 106 rfl)) Via.refl f14 f16 (Or.inl (ow hw 107 rfl)) (ow hw 25 rfl) (ty := .int) (by decide) rfl rfl (om 0 rfl) rfl ?_
  intro T20 h20 X20 W20 K20 F20
  have f21 := Fld.other W20 f18 (Or.inr (slot_ne (Or.inl (ow hw 40 rfl)) (Or.inl (ow hw 107 rfl)) (by decide) (t := (.array (.object "java/lang/Object"))) (t' := .int) (by decide) (by decide)))
  have f22 := Fld.other W20 f19 (Or.inr (slot_ne (Or.inl (ow hw 110 rfl)) (Or.inl (ow hw 107 rfl)) (by decide) (t := .int) (t' := .int) (by decide) (by decide)))
  refine og_icmpY X20 50 d12_42 (XT.ii_ne_t (by decide)) (by decide) (by decide) ?_
  have f23 := f6.keep K13 nin0
  have f24 := f23.keep K20 (ninS (Ne.symm (own_neA f16 (ow hw 25 rfl) f23)) nin0)
  refine own_retV X20 d12_50 hret (by decide) (by decide) ?_
  exact ⟨rfl, f21, f22, F20, f24⟩
theorem rd_adi0 (l : Launch) (Z : State) (a0 : Array Value) (hw : ∀ d ∈ tables_1, d.before a0 Z = true) (n0 : Nat) (h0 : Heap) (hWd : OWorld Z a0) (wc : List Jvm.Cond) (O0 : Old Z n0 h0) (a : Addr) (el : Addr) (ke : ClassId) (v : Addr) (q0 : Exa Z h0 a "java/util/ArrayDeque") (q1 : Fld Z h0 a "java/util/ArrayDeque" "elements" "[Ljava/lang/Object;" (.ref el)) (q2 : Fld Z h0 a "java/util/ArrayDeque" "head" "I" (.int 0)) (q3 : Fld Z h0 a "java/util/ArrayDeque" "tail" "I" (.int 0)) (q4 : Arv Z h0 el ke (.object "java/lang/Object") (17 : Int32) [.null, .null, .null, .null, .null, .null, .null, .null, .null, .null, .null, .null, .null, .null, .null, .null, .null] .null) (q5 : Ovr Z ke "java/lang/Object") (q6 : Exa Z h0 v "java/lang/Integer") (g0 : n0 ≤ a ∧ a < h0.size) (g1 : n0 ≤ el ∧ el < h0.size) :
    OMet l Z own_EL n0 (⟨"java/util/ArrayDeque", "add", "(Ljava/lang/Object;)Z"⟩ : MethodName) (Jvm.Cond.code (⟨"java/util/ArrayDeque", "add", "(Ljava/lang/Object;)Z"⟩ : MethodName) jdk_21_method_28_code 2 (some .boolean) :: wc) ({ frames := 2, cells := 0, slots := 0, locals := 29 } : Room) #[(.ref a), (.ref v)] h0 [a, el] (fun vq hq => vq = some (.int 1) ∧ Fld Z hq a "java/util/ArrayDeque" "elements" "[Ljava/lang/Object;" (.ref el) ∧ Fld Z hq a "java/util/ArrayDeque" "head" "I" (.int 0) ∧ Fld Z hq a "java/util/ArrayDeque" "tail" "I" (.int 1) ∧ Arv Z hq el ke (.object "java/lang/Object") (17 : Int32) [(.ref v), .null, .null, .null, .null, .null, .null, .null, .null, .null, .null, .null, .null, .null, .null, .null, .null] .null) := by
  refine own_enter #[.val (.ref a), .val (.ref v)] pn_java_util_ArrayDeque_add__Ljava_lang_Object__Z (ef_rd_adi0 a el ke v) hWd.1 O0 (allS g0 (allS g1 all0)) ?_
  intro p e s m below meth c T0 X0 hnm hret
  refine og_aloadN X0 1 d11_0 rfl rfl rfl ?_
  refine og_aloadN X0 2 d11_1 rfl rfl rfl ?_
  refine own_virt X0 5 (a := a) (argsL := [(.ref v)]) (rest := []) d11_2 q0 (fun _ hZ => notFace_of_selects (args := #[]) (mvT hZ (ow hw 104 rfl))) (rd_ali0 l Z a0 hw n0 h0 hWd [] X0.old a el ke v q0 q1 q2 q3 q4 q5 q6 (own_svb X0 (om 0 rfl)) (own_svb X0 (om 1 rfl))) (ow hw 101 rfl) (ow hw 102 rfl) (ow hw 104 rfl) (ow hw 103 rfl) (ow hw 26 rfl) (ow hw 105 rfl) (by decide) (lenOf pd__28Ljava_2flang_2fObject_3b_29V rfl) rfl rfl rfl (W := 0) rfl (by decide) (by decide) (by decide) (by decide) (allS (om 0 rfl) (allS (om 1 rfl) all0)) rfl ?_
  intro T1 h1 v1 X1 K1 hQ1
  obtain ⟨rfl, f2, f3, f4, f5⟩ := hQ1
  show OGo _ _ _ _ T1 (mkF m 5 #[.val (.ref a), .val (.ref v)] [])
  refine og_iconst X1 6 (1 : Int32) d11_5 rfl rfl ?_
  refine own_retZ X1 d11_6 hret rfl (by decide) (by decide) ?_
  exact ⟨rfl, f2, f3, f4, f5⟩
theorem rd_alk0 (l : Launch) (Z : State) (a0 : Array Value) (hw : ∀ d ∈ tables_1, d.before a0 Z = true) (n0 : Nat) (h0 : Heap) (hWd : OWorld Z a0) (wc : List Jvm.Cond) (O0 : Old Z n0 h0) (a : Addr) (el : Addr) (ke : ClassId) (v : Addr) (q0 : Exa Z h0 a "java/util/ArrayDeque") (q1 : Fld Z h0 a "java/util/ArrayDeque" "elements" "[Ljava/lang/Object;" (.ref el)) (q2 : Fld Z h0 a "java/util/ArrayDeque" "head" "I" (.int 0)) (q3 : Fld Z h0 a "java/util/ArrayDeque" "tail" "I" (.int 0)) (q4 : Arv Z h0 el ke (.object "java/lang/Object") (17 : Int32) [.null, .null, .null, .null, .null, .null, .null, .null, .null, .null, .null, .null, .null, .null, .null, .null, .null] .null) (q5 : Ovr Z ke "java/lang/Object") (q6 : Exa Z h0 v "com/example/bote/bote/service/SendQueue$Kind") (g0 : n0 ≤ a ∧ a < h0.size) (g1 : n0 ≤ el ∧ el < h0.size) :
    OMet l Z own_EL n0 (⟨"java/util/ArrayDeque", "addLast", "(Ljava/lang/Object;)V"⟩ : MethodName) (Jvm.Cond.code (⟨"java/util/ArrayDeque", "addLast", "(Ljava/lang/Object;)V"⟩ : MethodName) jdk_21_method_13_code 3 none :: wc) ({ frames := 1, cells := 0, slots := 0, locals := 15 } : Room) #[(.ref a), (.ref v)] h0 [a, el] (fun vq hq => vq = none ∧ Fld Z hq a "java/util/ArrayDeque" "elements" "[Ljava/lang/Object;" (.ref el) ∧ Fld Z hq a "java/util/ArrayDeque" "head" "I" (.int 0) ∧ Fld Z hq a "java/util/ArrayDeque" "tail" "I" (.int 1) ∧ Arv Z hq el ke (.object "java/lang/Object") (17 : Int32) [(.ref v), .null, .null, .null, .null, .null, .null, .null, .null, .null, .null, .null, .null, .null, .null, .null, .null] .null) := by
  refine own_enter #[.val (.ref a), .val (.ref v), .unset] pn_java_util_ArrayDeque_addLast__Ljava_lang_Object__V (ef_rd_alk0 a el ke v) hWd.1 O0 (allS g0 (allS g1 all0)) ?_
  intro p e s m below meth c T0 X0 hnm hret
  refine og_aloadN X0 1 d12_0 rfl rfl rfl ?_
  refine og_nonnullY X0 12 d12_1 (by decide) (by decide) ?_
  refine og_aloadN X0 13 d12_12 rfl rfl rfl ?_
  refine own_get X0 16 d12_13 (host := "") (Or.inl (ow hw 39 rfl)) Via.refl q1 rfl ?_
  intro T1 X2
  refine og_astoreN X2 17 #[.val (.ref a), .val (.ref v), .val (.ref el)] d12_16 rfl rfl rfl ?_
  refine og_aloadN X2 18 d12_17 rfl rfl rfl ?_
  refine og_aloadN X2 19 d12_18 rfl rfl rfl ?_
  refine own_get X2 22 d12_19 (host := "") (Or.inl (ow hw 106 rfl)) Via.refl q3 rfl ?_
  intro T3 X4
  refine og_aloadN X4 23 d12_22 rfl rfl rfl ?_
  refine own_stR X4 24 d12_23 q4 rfl rfl (own_sto q4 q5 (Ins.of_exa q6 (ow hw 114 rfl))) (by decide) (by decide) (i := 0) (by decide) (Nat.le_of_ble_eq_true rfl) (om 1 rfl) rfl ?_
  intro T5 h5 X5 W5 K5 A5
  have f6 : Arv Z h5 el ke (.object "java/lang/Object") (17 : Int32) [(.ref v), .null, .null, .null, .null, .null, .null, .null, .null, .null, .null, .null, .null, .null, .null, .null, .null] .null := A5
  refine og_aloadN X5 25 d12_24 rfl rfl rfl ?_
  have f7 := q2.keep K5 (ninS (own_neA (q0.keep K5) (ow hw 25 rfl) f6) nin0)
  refine own_get X5 28 d12_25 (host := "") (Or.inl (ow hw 109 rfl)) Via.refl f7 rfl ?_
  intro T8 X9
  refine og_aloadN X9 29 d12_28 rfl rfl rfl ?_
  refine og_aloadN X9 30 d12_29 rfl rfl rfl ?_
  have f10 := q3.keep K5 (ninS (own_neA (q0.keep K5) (ow hw 25 rfl) f6) nin0)
  refine own_get X9 33 d12_30 (host := "") (Or.inl (ow hw 106 rfl)) Via.refl f10 rfl ?_
  intro T11 X12
  refine og_aloadN X12 34 d12_33 rfl rfl rfl ?_
  refine own_len X12 35 d12_34 f6 rfl ?_
  refine own_stat X12 38 (argsL := [(.int 0), (.int 17)]) (rest := [(.ref a), (.int 0)]) d12_35 (rd_inc0 l Z a0 hw n0 h5 hWd [] X12.old   ) (ow hw 111 rfl) (ow hw 112 rfl) (ow hw 26 rfl) (ow hw 113 rfl) (by decide) (lenOf pd__28II_29I rfl) rfl rfl rfl (W := 2) rfl (by decide) (by decide) (by decide) (by decide) all0 rfl ?_
  intro T13 h13 v13 X13 K13 hQ13
  obtain rfl := hQ13
  show OGo _ _ _ _ T13 (mkF m 38 #[.val (.ref a), .val (.ref v), .val (.ref el)] [(.int 1), (.ref a), (.int 0)])
  refine og_dupX1 X13 39 d12_38 rfl rfl rfl ?_
  have f14 := f10.keep K13 nin0
  have f15 := q0.keep K5
  have f16 := f15.keep K13
  have f17 := q1.keep K5 (ninS (own_neA f15 (ow hw 25 rfl) f6) nin0)
  have f18 := f17.keep K13 nin0
  have f19 := f7.keep K13 nin0
  refine own_put X13 42 d12_39 (host := "") (Or.inl (ow hw 106 rfl)) Via.refl f14 f16 (Or.inl (ow hw 107 rfl)) (ow hw 25 rfl) (ty := .int) (by decide) rfl rfl (om 0 rfl) rfl ?_
  intro T20 h20 X20 W20 K20 F20
  have f21 := Fld.other W20 f18 (Or.inr (slot_ne (Or.inl (ow hw 40 rfl)) (Or.inl (ow hw 107 rfl)) (by decide) (t := (.array (.object "java/lang/Object"))) (t' := .int) (by decide) (by decide)))
  have f22 := Fld.other W20 f19 (Or.inr (slot_ne (Or.inl (ow hw 110 rfl)) (Or.inl (ow hw 107 rfl)) (by decide) (t := .int) (t' := .int) (by decide) (by decide)))
  refine og_icmpY X20 50 d12_42 (XT.ii_ne_t (by decide)) (by decide) (by decide) ?_
  have f23 := f6.keep K13 nin0
  have f24 := f23.keep K20 (ninS (Ne.symm (own_neA f16 (ow hw 25 rfl) f23)) nin0)
  refine own_retV X20 d12_50 hret (by decide) (by decide) ?_
  exact ⟨rfl, f21, f22, F20, f24⟩
theorem rd_adk0 (l : Launch) (Z : State) (a0 : Array Value) (hw : ∀ d ∈ tables_1, d.before a0 Z = true) (n0 : Nat) (h0 : Heap) (hWd : OWorld Z a0) (wc : List Jvm.Cond) (O0 : Old Z n0 h0) (a : Addr) (el : Addr) (ke : ClassId) (v : Addr) (q0 : Exa Z h0 a "java/util/ArrayDeque") (q1 : Fld Z h0 a "java/util/ArrayDeque" "elements" "[Ljava/lang/Object;" (.ref el)) (q2 : Fld Z h0 a "java/util/ArrayDeque" "head" "I" (.int 0)) (q3 : Fld Z h0 a "java/util/ArrayDeque" "tail" "I" (.int 0)) (q4 : Arv Z h0 el ke (.object "java/lang/Object") (17 : Int32) [.null, .null, .null, .null, .null, .null, .null, .null, .null, .null, .null, .null, .null, .null, .null, .null, .null] .null) (q5 : Ovr Z ke "java/lang/Object") (q6 : Exa Z h0 v "com/example/bote/bote/service/SendQueue$Kind") (g0 : n0 ≤ a ∧ a < h0.size) (g1 : n0 ≤ el ∧ el < h0.size) :
    OMet l Z own_EL n0 (⟨"java/util/ArrayDeque", "add", "(Ljava/lang/Object;)Z"⟩ : MethodName) (Jvm.Cond.code (⟨"java/util/ArrayDeque", "add", "(Ljava/lang/Object;)Z"⟩ : MethodName) jdk_21_method_28_code 2 (some .boolean) :: wc) ({ frames := 2, cells := 0, slots := 0, locals := 29 } : Room) #[(.ref a), (.ref v)] h0 [a, el] (fun vq hq => vq = some (.int 1) ∧ Fld Z hq a "java/util/ArrayDeque" "elements" "[Ljava/lang/Object;" (.ref el) ∧ Fld Z hq a "java/util/ArrayDeque" "head" "I" (.int 0) ∧ Fld Z hq a "java/util/ArrayDeque" "tail" "I" (.int 1) ∧ Arv Z hq el ke (.object "java/lang/Object") (17 : Int32) [(.ref v), .null, .null, .null, .null, .null, .null, .null, .null, .null, .null, .null, .null, .null, .null, .null, .null] .null) := by
  refine own_enter #[.val (.ref a), .val (.ref v)] pn_java_util_ArrayDeque_add__Ljava_lang_Object__Z (ef_rd_adk0 a el ke v) hWd.1 O0 (allS g0 (allS g1 all0)) ?_
  intro p e s m below meth c T0 X0 hnm hret
  refine og_aloadN X0 1 d11_0 rfl rfl rfl ?_
  refine og_aloadN X0 2 d11_1 rfl rfl rfl ?_
  refine own_virt X0 5 (a := a) (argsL := [(.ref v)]) (rest := []) d11_2 q0 (fun _ hZ => notFace_of_selects (args := #[]) (mvT hZ (ow hw 104 rfl))) (rd_alk0 l Z a0 hw n0 h0 hWd [] X0.old a el ke v q0 q1 q2 q3 q4 q5 q6 (own_svb X0 (om 0 rfl)) (own_svb X0 (om 1 rfl))) (ow hw 101 rfl) (ow hw 102 rfl) (ow hw 104 rfl) (ow hw 103 rfl) (ow hw 26 rfl) (ow hw 105 rfl) (by decide) (lenOf pd__28Ljava_2flang_2fObject_3b_29V rfl) rfl rfl rfl (W := 0) rfl (by decide) (by decide) (by decide) (by decide) (allS (om 0 rfl) (allS (om 1 rfl) all0)) rfl ?_
  intro T1 h1 v1 X1 K1 hQ1
  obtain ⟨rfl, f2, f3, f4, f5⟩ := hQ1
  show OGo _ _ _ _ T1 (mkF m 5 #[.val (.ref a), .val (.ref v)] [])
  refine og_iconst X1 6 (1 : Int32) d11_5 rfl rfl ?_
  refine own_retZ X1 d11_6 hret rfl (by decide) (by decide) ?_
  exact ⟨rfl, f2, f3, f4, f5⟩
theorem rd_ali1 (l : Launch) (Z : State) (a0 : Array Value) (hw : ∀ d ∈ tables_1, d.before a0 Z = true) (n0 : Nat) (h0 : Heap) (hWd : OWorld Z a0) (wc : List Jvm.Cond) (O0 : Old Z n0 h0) (a : Addr) (el : Addr) (ke : ClassId) (v : Addr) (z0 : Addr) (q0 : Exa Z h0 a "java/util/ArrayDeque") (q1 : Fld Z h0 a "java/util/ArrayDeque" "elements" "[Ljava/lang/Object;" (.ref el)) (q2 : Fld Z h0 a "java/util/ArrayDeque" "head" "I" (.int 0)) (q3 : Fld Z h0 a "java/util/ArrayDeque" "tail" "I" (.int 1)) (q4 : Arv Z h0 el ke (.object "java/lang/Object") (17 : Int32) [(.ref z0), .null, .null, .null, .null, .null, .null, .null, .null, .null, .null, .null, .null, .null, .null, .null, .null] .null) (q5 : Ovr Z ke "java/lang/Object") (q6 : Exa Z h0 v "java/lang/Integer") (g0 : n0 ≤ a ∧ a < h0.size) (g1 : n0 ≤ el ∧ el < h0.size) :
    OMet l Z own_EL n0 (⟨"java/util/ArrayDeque", "addLast", "(Ljava/lang/Object;)V"⟩ : MethodName) (Jvm.Cond.code (⟨"java/util/ArrayDeque", "addLast", "(Ljava/lang/Object;)V"⟩ : MethodName) jdk_21_method_13_code 3 none :: wc) ({ frames := 1, cells := 0, slots := 0, locals := 15 } : Room) #[(.ref a), (.ref v)] h0 [a, el] (fun vq hq => vq = none ∧ Fld Z hq a "java/util/ArrayDeque" "elements" "[Ljava/lang/Object;" (.ref el) ∧ Fld Z hq a "java/util/ArrayDeque" "head" "I" (.int 0) ∧ Fld Z hq a "java/util/ArrayDeque" "tail" "I" (.int 2) ∧ Arv Z hq el ke (.object "java/lang/Object") (17 : Int32) [(.ref z0), (.ref v), .null, .null, .null, .null, .null, .null, .null, .null, .null, .null, .null, .null, .null, .null, .null] .null) := by
  refine own_enter #[.val (.ref a), .val (.ref v), .unset] pn_java_util_ArrayDeque_addLast__Ljava_lang_Object__V (ef_rd_ali1 a el ke v z0) hWd.1 O0 (allS g0 (allS g1 all0)) ?_
  intro p e s m below meth c T0 X0 hnm hret
  refine og_aloadN X0 1 d12_0 rfl rfl rfl ?_
  refine og_nonnullY X0 12 d12_1 (by decide) (by decide) ?_
  refine og_aloadN X0 13 d12_12 rfl rfl rfl ?_
  refine own_get X0 16 d12_13 (host := "") (Or.inl (ow hw 39 rfl)) Via.refl q1 rfl ?_
  intro T1 X2
  refine og_astoreN X2 17 #[.val (.ref a), .val (.ref v), .val (.ref el)] d12_16 rfl rfl rfl ?_
  refine og_aloadN X2 18 d12_17 rfl rfl rfl ?_
  refine og_aloadN X2 19 d12_18 rfl rfl rfl ?_
  refine own_get X2 22 d12_19 (host := "") (Or.inl (ow hw 106 rfl)) Via.refl q3 rfl ?_
  intro T3 X4
  refine og_aloadN X4 23 d12_22 rfl rfl rfl ?_
  refine own_stR X4 24 d12_23 q4 rfl rfl (own_sto q4 q5 (Ins.of_exa q6 (ow hw 108 rfl))) (by decide) (by decide) (i := 1) (by decide) (Nat.le_of_ble_eq_true rfl) (om 1 rfl) rfl ?_
  intro T5 h5 X5 W5 K5 A5
  have f6 : Arv Z h5 el ke (.object "java/lang/Object") (17 : Int32) [(.ref z0), (.ref v), .null, .null, .null, .null, .null, .null, .null, .null, .null, .null, .null, .null, .null, .null, .null] .null := A5
  refine og_aloadN X5 25 d12_24 rfl rfl rfl ?_
  have f7 := q2.keep K5 (ninS (own_neA (q0.keep K5) (ow hw 25 rfl) f6) nin0)
  refine own_get X5 28 d12_25 (host := "") (Or.inl (ow hw 109 rfl)) Via.refl f7 rfl ?_
  intro T8 X9
  refine og_aloadN X9 29 d12_28 rfl rfl rfl ?_
  refine og_aloadN X9 30 d12_29 rfl rfl rfl ?_
  have f10 := q3.keep K5 (ninS (own_neA (q0.keep K5) (ow hw 25 rfl) f6) nin0)
  refine own_get X9 33 d12_30 (host := "") (Or.inl (ow hw 106 rfl)) Via.refl f10 rfl ?_
  intro T11 X12
  refine og_aloadN X12 34 d12_33 rfl rfl rfl ?_
  refine own_len X12 35 d12_34 f6 rfl ?_
  refine own_stat X12 38 (argsL := [(.int 1), (.int 17)]) (rest := [(.ref a), (.int 0)]) d12_35 (rd_inc1 l Z a0 hw n0 h5 hWd [] X12.old   ) (ow hw 111 rfl) (ow hw 112 rfl) (ow hw 26 rfl) (ow hw 113 rfl) (by decide) (lenOf pd__28II_29I rfl) rfl rfl rfl (W := 2) rfl (by decide) (by decide) (by decide) (by decide) all0 rfl ?_
  intro T13 h13 v13 X13 K13 hQ13
  obtain rfl := hQ13
  show OGo _ _ _ _ T13 (mkF m 38 #[.val (.ref a), .val (.ref v), .val (.ref el)] [(.int 2), (.ref a), (.int 0)])
  refine og_dupX1 X13 39 d12_38 rfl rfl rfl ?_
  have f14 := f10.keep K13 nin0
  have f15 := q0.keep K5
  have f16 := f15.keep K13
  have f17 := q1.keep K5 (ninS (own_neA f15 (ow hw 25 rfl) f6) nin0)
  have f18 := f17.keep K13 nin0
  have f19 := f7.keep K13 nin0
  refine own_put X13 42 d12_39 (host := "") (Or.inl (ow hw 106 rfl)) Via.refl f14 f16 (Or.inl (ow hw 107 rfl)) (ow hw 25 rfl) (ty := .int) (by decide) rfl rfl (om 0 rfl) rfl ?_
  intro T20 h20 X20 W20 K20 F20
  have f21 := Fld.other W20 f18 (Or.inr (slot_ne (Or.inl (ow hw 40 rfl)) (Or.inl (ow hw 107 rfl)) (by decide) (t := (.array (.object "java/lang/Object"))) (t' := .int) (by decide) (by decide)))
  have f22 := Fld.other W20 f19 (Or.inr (slot_ne (Or.inl (ow hw 110 rfl)) (Or.inl (ow hw 107 rfl)) (by decide) (t := .int) (t' := .int) (by decide) (by decide)))
  refine og_icmpY X20 50 d12_42 (XT.ii_ne_t (by decide)) (by decide) (by decide) ?_
  have f23 := f6.keep K13 nin0
  have f24 := f23.keep K20 (ninS (Ne.symm (own_neA f16 (ow hw 25 rfl) f23)) nin0)
  refine own_retV X20 d12_50 hret (by decide) (by decide) ?_
  exact ⟨rfl, f21, f22, F20, f24⟩
theorem rd_adi1 (l : Launch) (Z : State) (a0 : Array Value) (hw : ∀ d ∈ tables_1, d.before a0 Z = true) (n0 : Nat) (h0 : Heap) (hWd : OWorld Z a0) (wc : List Jvm.Cond) (O0 : Old Z n0 h0) (a : Addr) (el : Addr) (ke : ClassId) (v : Addr) (z0 : Addr) (q0 : Exa Z h0 a "java/util/ArrayDeque") (q1 : Fld Z h0 a "java/util/ArrayDeque" "elements" "[Ljava/lang/Object;" (.ref el)) (q2 : Fld Z h0 a "java/util/ArrayDeque" "head" "I" (.int 0)) (q3 : Fld Z h0 a "java/util/ArrayDeque" "tail" "I" (.int 1)) (q4 : Arv Z h0 el ke (.object "java/lang/Object") (17 : Int32) [(.ref z0), .null, .null, .null, .null, .null, .null, .null, .null, .null, .null, .null, .null, .null, .null, .null, .null] .null) (q5 : Ovr Z ke "java/lang/Object") (q6 : Exa Z h0 v "java/lang/Integer") (g0 : n0 ≤ a ∧ a < h0.size) (g1 : n0 ≤ el ∧ el < h0.size) :
    OMet l Z own_EL n0 (⟨"java/util/ArrayDeque", "add", "(Ljava/lang/Object;)Z"⟩ : MethodName) (Jvm.Cond.code (⟨"java/util/ArrayDeque", "add", "(Ljava/lang/Object;)Z"⟩ : MethodName) jdk_21_method_28_code 2 (some .boolean) :: wc) ({ frames := 2, cells := 0, slots := 0, locals := 29 } : Room) #[(.ref a), (.ref v)] h0 [a, el] (fun vq hq => vq = some (.int 1) ∧ Fld Z hq a "java/util/ArrayDeque" "elements" "[Ljava/lang/Object;" (.ref el) ∧ Fld Z hq a "java/util/ArrayDeque" "head" "I" (.int 0) ∧ Fld Z hq a "java/util/ArrayDeque" "tail" "I" (.int 2) ∧ Arv Z hq el ke (.object "java/lang/Object") (17 : Int32) [(.ref z0), (.ref v), .null, .null, .null, .null, .null, .null, .null, .null, .null, .null, .null, .null, .null, .null, .null] .null) := by
  refine own_enter #[.val (.ref a), .val (.ref v)] pn_java_util_ArrayDeque_add__Ljava_lang_Object__Z (ef_rd_adi1 a el ke v z0) hWd.1 O0 (allS g0 (allS g1 all0)) ?_
  intro p e s m below meth c T0 X0 hnm hret
  refine og_aloadN X0 1 d11_0 rfl rfl rfl ?_
  refine og_aloadN X0 2 d11_1 rfl rfl rfl ?_
  refine own_virt X0 5 (a := a) (argsL := [(.ref v)]) (rest := []) d11_2 q0 (fun _ hZ => notFace_of_selects (args := #[]) (mvT hZ (ow hw 104 rfl))) (rd_ali1 l Z a0 hw n0 h0 hWd [] X0.old a el ke v z0 q0 q1 q2 q3 q4 q5 q6 (own_svb X0 (om 0 rfl)) (own_svb X0 (om 1 rfl))) (ow hw 101 rfl) (ow hw 102 rfl) (ow hw 104 rfl) (ow hw 103 rfl) (ow hw 26 rfl) (ow hw 105 rfl) (by decide) (lenOf pd__28Ljava_2flang_2fObject_3b_29V rfl) rfl rfl rfl (W := 0) rfl (by decide) (by decide) (by decide) (by decide) (allS (om 0 rfl) (allS (om 1 rfl) all0)) rfl ?_
  intro T1 h1 v1 X1 K1 hQ1
  obtain ⟨rfl, f2, f3, f4, f5⟩ := hQ1
  show OGo _ _ _ _ T1 (mkF m 5 #[.val (.ref a), .val (.ref v)] [])
  refine og_iconst X1 6 (1 : Int32) d11_5 rfl rfl ?_
  refine own_retZ X1 d11_6 hret rfl (by decide) (by decide) ?_
  exact ⟨rfl, f2, f3, f4, f5⟩
theorem rd_alk1 (l : Launch) (Z : State) (a0 : Array Value) (hw : ∀ d ∈ tables_1, d.before a0 Z = true) (n0 : Nat) (h0 : Heap) (hWd : OWorld Z a0) (wc : List Jvm.Cond) (O0 : Old Z n0 h0) (a : Addr) (el : Addr) (ke : ClassId) (v : Addr) (z0 : Addr) (q0 : Exa Z h0 a "java/util/ArrayDeque") (q1 : Fld Z h0 a "java/util/ArrayDeque" "elements" "[Ljava/lang/Object;" (.ref el)) (q2 : Fld Z h0 a "java/util/ArrayDeque" "head" "I" (.int 0)) (q3 : Fld Z h0 a "java/util/ArrayDeque" "tail" "I" (.int 1)) (q4 : Arv Z h0 el ke (.object "java/lang/Object") (17 : Int32) [(.ref z0), .null, .null, .null, .null, .null, .null, .null, .null, .null, .null, .null, .null, .null, .null, .null, .null] .null) (q5 : Ovr Z ke "java/lang/Object") (q6 : Exa Z h0 v "com/example/bote/bote/service/SendQueue$Kind") (g0 : n0 ≤ a ∧ a < h0.size) (g1 : n0 ≤ el ∧ el < h0.size) :
    OMet l Z own_EL n0 (⟨"java/util/ArrayDeque", "addLast", "(Ljava/lang/Object;)V"⟩ : MethodName) (Jvm.Cond.code (⟨"java/util/ArrayDeque", "addLast", "(Ljava/lang/Object;)V"⟩ : MethodName) jdk_21_method_13_code 3 none :: wc) ({ frames := 1, cells := 0, slots := 0, locals := 15 } : Room) #[(.ref a), (.ref v)] h0 [a, el] (fun vq hq => vq = none ∧ Fld Z hq a "java/util/ArrayDeque" "elements" "[Ljava/lang/Object;" (.ref el) ∧ Fld Z hq a "java/util/ArrayDeque" "head" "I" (.int 0) ∧ Fld Z hq a "java/util/ArrayDeque" "tail" "I" (.int 2) ∧ Arv Z hq el ke (.object "java/lang/Object") (17 : Int32) [(.ref z0), (.ref v), .null, .null, .null, .null, .null, .null, .null, .null, .null, .null, .null, .null, .null, .null, .null] .null) := by
  refine own_enter #[.val (.ref a), .val (.ref v), .unset] pn_java_util_ArrayDeque_addLast__Ljava_lang_Object__V (ef_rd_alk1 a el ke v z0) hWd.1 O0 (allS g0 (allS g1 all0)) ?_
  intro p e s m below meth c T0 X0 hnm hret
  refine og_aloadN X0 1 d12_0 rfl rfl rfl ?_
  refine og_nonnullY X0 12 d12_1 (by decide) (by decide) ?_
  refine og_aloadN X0 13 d12_12 rfl rfl rfl ?_
  refine own_get X0 16 d12_13 (host := "") (Or.inl (ow hw 39 rfl)) Via.refl q1 rfl ?_
  intro T1 X2
  refine og_astoreN X2 17 #[.val (.ref a), .val (.ref v), .val (.ref el)] d12_16 rfl rfl rfl ?_
  refine og_aloadN X2 18 d12_17 rfl rfl rfl ?_
  refine og_aloadN X2 19 d12_18 rfl rfl rfl ?_
  refine own_get X2 22 d12_19 (host := "") (Or.inl (ow hw 106 rfl)) Via.refl q3 rfl ?_
  intro T3 X4
  refine og_aloadN X4 23 d12_22 rfl rfl rfl ?_
  refine own_stR X4 24 d12_23 q4 rfl rfl (own_sto q4 q5 (Ins.of_exa q6 (ow hw 114 rfl))) (by decide) (by decide) (i := 1) (by decide) (Nat.le_of_ble_eq_true rfl) (om 1 rfl) rfl ?_
  intro T5 h5 X5 W5 K5 A5
  have f6 : Arv Z h5 el ke (.object "java/lang/Object") (17 : Int32) [(.ref z0), (.ref v), .null, .null, .null, .null, .null, .null, .null, .null, .null, .null, .null, .null, .null, .null, .null] .null := A5
  refine og_aloadN X5 25 d12_24 rfl rfl rfl ?_
  have f7 := q2.keep K5 (ninS (own_neA (q0.keep K5) (ow hw 25 rfl) f6) nin0)
  refine own_get X5 28 d12_25 (host := "") (Or.inl (ow hw 109 rfl)) Via.refl f7 rfl ?_
  intro T8 X9
  refine og_aloadN X9 29 d12_28 rfl rfl rfl ?_
  refine og_aloadN X9 30 d12_29 rfl rfl rfl ?_
  have f10 := q3.keep K5 (ninS (own_neA (q0.keep K5) (ow hw 25 rfl) f6) nin0)
  refine own_get X9 33 d12_30 (host := "") (Or.inl (ow hw 106 rfl)) Via.refl f10 rfl ?_
  intro T11 X12
  refine og_aloadN X12 34 d12_33 rfl rfl rfl ?_
  refine own_len X12 35 d12_34 f6 rfl ?_
  refine own_stat X12 38 (argsL := [(.int 1), (.int 17)]) (rest := [(.ref a), (.int 0)]) d12_35 (rd_inc1 l Z a0 hw n0 h5 hWd [] X12.old   ) (ow hw 111 rfl) (ow hw 112 rfl) (ow hw 26 rfl) (ow hw 113 rfl) (by decide) (lenOf pd__28II_29I rfl) rfl rfl rfl (W := 2) rfl (by decide) (by decide) (by decide) (by decide) all0 rfl ?_
  intro T13 h13 v13 X13 K13 hQ13
  obtain rfl := hQ13
  show OGo _ _ _ _ T13 (mkF m 38 #[.val (.ref a), .val (.ref v), .val (.ref el)] [(.int 2), (.ref a), (.int 0)])
  refine og_dupX1 X13 39 d12_38 rfl rfl rfl ?_
  have f14 := f10.keep K13 nin0
  have f15 := q0.keep K5
  have f16 := f15.keep K13
  have f17 := q1.keep K5 (ninS (own_neA f15 (ow hw 25 rfl) f6) nin0)
  have f18 := f17.keep K13 nin0
  have f19 := f7.keep K13 nin0
  refine own_put X13 42 d12_39 (host := "") (Or.inl (ow hw 106 rfl)) Via.refl f14 f16 (Or.inl (ow hw 107 rfl)) (ow hw 25 rfl) (ty := .int) (by decide) rfl rfl (om 0 rfl) rfl ?_
  intro T20 h20 X20 W20 K20 F20
  have f21 := Fld.other W20 f18 (Or.inr (slot_ne (Or.inl (ow hw 40 rfl)) (Or.inl (ow hw 107 rfl)) (by decide) (t := (.array (.object "java/lang/Object"))) (t' := .int) (by decide) (by decide)))
  have f22 := Fld.other W20 f19 (Or.inr (slot_ne (Or.inl (ow hw 110 rfl)) (Or.inl (ow hw 107 rfl)) (by decide) (t := .int) (t' := .int) (by decide) (by decide)))
  refine og_icmpY X20 50 d12_42 (XT.ii_ne_t (by decide)) (by decide) (by decide) ?_
  have f23 := f6.keep K13 nin0
  have f24 := f23.keep K20 (ninS (Ne.symm (own_neA f16 (ow hw 25 rfl) f23)) nin0)
  refine own_retV X20 d12_50 hret (by decide) (by decide) ?_
  exact ⟨rfl, f21, f22, F20, f24⟩
theorem rd_adk1 (l : Launch) (Z : State) (a0 : Array Value) (hw : ∀ d ∈ tables_1, d.before a0 Z = true) (n0 : Nat) (h0 : Heap) (hWd : OWorld Z a0) (wc : List Jvm.Cond) (O0 : Old Z n0 h0) (a : Addr) (el : Addr) (ke : ClassId) (v : Addr) (z0 : Addr) (q0 : Exa Z h0 a "java/util/ArrayDeque") (q1 : Fld Z h0 a "java/util/ArrayDeque" "elements" "[Ljava/lang/Object;" (.ref el)) (q2 : Fld Z h0 a "java/util/ArrayDeque" "head" "I" (.int 0)) (q3 : Fld Z h0 a "java/util/ArrayDeque" "tail" "I" (.int 1)) (q4 : Arv Z h0 el ke (.object "java/lang/Object") (17 : Int32) [(.ref z0), .null, .null, .null, .null, .null, .null, .null, .null, .null, .null, .null, .null, .null, .null, .null, .null] .null) (q5 : Ovr Z ke "java/lang/Object") (q6 : Exa Z h0 v "com/example/bote/bote/service/SendQueue$Kind") (g0 : n0 ≤ a ∧ a < h0.size) (g1 : n0 ≤ el ∧ el < h0.size) :
    OMet l Z own_EL n0 (⟨"java/util/ArrayDeque", "add", "(Ljava/lang/Object;)Z"⟩ : MethodName) (Jvm.Cond.code (⟨"java/util/ArrayDeque", "add", "(Ljava/lang/Object;)Z"⟩ : MethodName) jdk_21_method_28_code 2 (some .boolean) :: wc) ({ frames := 2, cells := 0, slots := 0, locals := 29 } : Room) #[(.ref a), (.ref v)] h0 [a, el] (fun vq hq => vq = some (.int 1) ∧ Fld Z hq a "java/util/ArrayDeque" "elements" "[Ljava/lang/Object;" (.ref el) ∧ Fld Z hq a "java/util/ArrayDeque" "head" "I" (.int 0) ∧ Fld Z hq a "java/util/ArrayDeque" "tail" "I" (.int 2) ∧ Arv Z hq el ke (.object "java/lang/Object") (17 : Int32) [(.ref z0), (.ref v), .null, .null, .null, .null, .null, .null, .null, .null, .null, .null, .null, .null, .null, .null, .null] .null) := by
  refine own_enter #[.val (.ref a), .val (.ref v)] pn_java_util_ArrayDeque_add__Ljava_lang_Object__Z (ef_rd_adk1 a el ke v z0) hWd.1 O0 (allS g0 (allS g1 all0)) ?_
  intro p e s m below meth c T0 X0 hnm hret
  refine og_aloadN X0 1 d11_0 rfl rfl rfl ?_
  refine og_aloadN X0 2 d11_1 rfl rfl rfl ?_
  refine own_virt X0 5 (a := a) (argsL := [(.ref v)]) (rest := []) d11_2 q0 (fun _ hZ => notFace_of_selects (args := #[]) (mvT hZ (ow hw 104 rfl))) (rd_alk1 l Z a0 hw n0 h0 hWd [] X0.old a el ke v z0 q0 q1 q2 q3 q4 q5 q6 (own_svb X0 (om 0 rfl)) (own_svb X0 (om 1 rfl))) (ow hw 101 rfl) (ow hw 102 rfl) (ow hw 104 rfl) (ow hw 103 rfl) (ow hw 26 rfl) (ow hw 105 rfl) (by decide) (lenOf pd__28Ljava_2flang_2fObject_3b_29V rfl) rfl rfl rfl (W := 0) rfl (by decide) (by decide) (by decide) (by decide) (allS (om 0 rfl) (allS (om 1 rfl) all0)) rfl ?_
  intro T1 h1 v1 X1 K1 hQ1
  obtain ⟨rfl, f2, f3, f4, f5⟩ := hQ1
  show OGo _ _ _ _ T1 (mkF m 5 #[.val (.ref a), .val (.ref v)] [])
  refine og_iconst X1 6 (1 : Int32) d11_5 rfl rfl ?_
  refine own_retZ X1 d11_6 hret rfl (by decide) (by decide) ?_
  exact ⟨rfl, f2, f3, f4, f5⟩
theorem rm17 (l : Launch) (Z : State) (a0 : Array Value) (hw : ∀ d ∈ tables_1, d.before a0 Z = true) (n0 : Nat) (h0 : Heap) (hWd : OWorld Z a0) (wc : List Jvm.Cond) (O0 : Old Z n0 h0) (el : Addr) (ke : ClassId) (v : Addr) (z0 : Addr) (q0 : Arv Z h0 el ke (.object "java/lang/Object") (17 : Int32) [(.ref v), (.ref z0), .null, .null, .null, .null, .null, .null, .null, .null, .null, .null, .null, .null, .null, .null, .null] .null) :
    OMet l Z own_EL n0 (⟨"java/util/ArrayDeque", "elementAt", "([Ljava/lang/Object;I)Ljava/lang/Object;"⟩ : MethodName) (Jvm.Cond.code (⟨"java/util/ArrayDeque", "elementAt", "([Ljava/lang/Object;I)Ljava/lang/Object;"⟩ : MethodName) jdk_21_method_10_code 2 (some (.object "java/lang/Object")) :: wc) ({ frames := 0, cells := 0, slots := 0, locals := 0 } : Room) #[(.ref el), (.int 0)] h0 [] (fun vq hq => vq = some (.ref v)) := by
  refine own_enter #[.val (.ref el), .val (.int 0)] pn_java_util_ArrayDeque_elementAt___Ljava_lang_Object_I_Ljava_lang_Object_ (ef_rm17 el ke v z0) hWd.1 O0 all0 ?_
  intro p e s m below meth c T0 X0 hnm hret
  refine og_aloadN X0 1 d17_0 rfl rfl rfl ?_
  refine og_iloadN X0 2 d17_1 rfl rfl ?_
  refine own_ldR X0 3 d17_2 q0 rfl (by decide) (by decide) rfl rfl ?_
  refine own_retA X0 d17_3 hret rfl rfl (by decide) (by decide) ?_
  exact rfl
theorem rd_pf (l : Launch) (Z : State) (a0 : Array Value) (hw : ∀ d ∈ tables_1, d.before a0 Z = true) (n0 : Nat) (h0 : Heap) (hWd : OWorld Z a0) (wc : List Jvm.Cond) (O0 : Old Z n0 h0) (a : Addr) (el : Addr) (ke : ClassId) (v : Addr) (z0 : Addr) (q0 : Exa Z h0 a "java/util/ArrayDeque") (q1 : Fld Z h0 a "java/util/ArrayDeque" "elements" "[Ljava/lang/Object;" (.ref el)) (q2 : Fld Z h0 a "java/util/ArrayDeque" "head" "I" (.int 0)) (q3 : Fld Z h0 a "java/util/ArrayDeque" "tail" "I" (.int 2)) (q4 : Arv Z h0 el ke (.object "java/lang/Object") (17 : Int32) [(.ref v), (.ref z0), .null, .null, .null, .null, .null, .null, .null, .null, .null, .null, .null, .null, .null, .null, .null] .null) (q5 : Ovr Z ke "java/lang/Object") (g0 : n0 ≤ a ∧ a < h0.size) (g1 : n0 ≤ el ∧ el < h0.size) :
    OMet l Z own_EL n0 (⟨"java/util/ArrayDeque", "pollFirst", "()Ljava/lang/Object;"⟩ : MethodName) (Jvm.Cond.code (⟨"java/util/ArrayDeque", "pollFirst", "()Ljava/lang/Object;"⟩ : MethodName) jdk_21_method_20_code 4 (some (.object "java/lang/Object")) :: wc) ({ frames := 1, cells := 0, slots := 0, locals := 14 } : Room) #[(.ref a)] h0 [a, el] (fun vq hq => vq = some (.ref v) ∧ Arv Z hq el ke (.object "java/lang/Object") (17 : Int32) [.null, (.ref z0), .null, .null, .null, .null, .null, .null, .null, .null, .null, .null, .null, .null, .null, .null, .null] .null) := by
  refine own_enter #[.val (.ref a), .unset, .unset, .unset] pn_java_util_ArrayDeque_pollFirst___Ljava_lang_Object_ (ef_rd_pf a el ke v z0) hWd.1 O0 (allS g0 (allS g1 all0)) ?_
  intro p e s m below meth c T0 X0 hnm hret
  refine og_aloadN X0 1 d16_0 rfl rfl rfl ?_
  refine own_get X0 4 d16_1 (host := "") (Or.inl (ow hw 39 rfl)) Via.refl q1 rfl ?_
  intro T1 X2
  refine og_dup X2 5 d16_4 rfl rfl ?_
  refine og_astoreN X2 6 #[.val (.ref a), .val (.ref el), .unset, .unset] d16_5 rfl rfl rfl ?_
  refine og_aloadN X2 7 d16_6 rfl rfl rfl ?_
  refine own_get X2 10 d16_7 (host := "") (Or.inl (ow hw 109 rfl)) Via.refl q2 rfl ?_
  intro T3 X4
  refine og_dup X4 11 d16_10 rfl rfl ?_
  refine og_istoreN X4 12 #[.val (.ref a), .val (.ref el), .val (.int 0), .unset] d16_11 rfl rfl ?_
  refine own_stat X4 15 (argsL := [(.ref el), (.int 0)]) (rest := []) d16_12 (rm17 l Z a0 hw n0 h0 hWd [] X4.old el ke v z0 q4 ) (ow hw 133 rfl) (ow hw 134 rfl) (ow hw 26 rfl) (ow hw 135 rfl) (by decide) (lenOf pd__28_5bLjava_2flang_2fObject_3bI_29Ljava_2flang_2fObject_3b rfl) rfl rfl rfl (W := 0) rfl (by decide) (by decide) (by decide) (by decide) all0 rfl ?_
  intro T5 h5 v5 X5 K5 hQ5
  obtain rfl := hQ5
  show OGo _ _ _ _ T5 (mkF m 15 #[.val (.ref a), .val (.ref el), .val (.int 0), .unset] [(.ref v)])
  refine og_astoreN X5 16 #[.val (.ref a), .val (.ref el), .val (.int 0), .val (.ref v)] d16_15 rfl rfl rfl ?_
  refine og_aloadN X5 17 d16_16 rfl rfl rfl ?_
  refine og_nullN X5 20 d16_17 rfl ?_
  refine og_aloadN X5 21 d16_20 rfl rfl rfl ?_
  refine og_iloadN X5 22 d16_21 rfl rfl ?_
  refine og_aconstNull X5 23 d16_22 rfl ?_
  have f6 := q4.keep K5 nin0
  refine own_stR X5 24 d16_23 f6 rfl rfl (Or.inl rfl) (by decide) (by decide) (i := 0) (by decide) (Nat.le_of_ble_eq_true rfl) (om 1 rfl) rfl ?_
  intro T7 h7 X7 W7 K7 A7
  have f8 : Arv Z h7 el ke (.object "java/lang/Object") (17 : Int32) [.null, (.ref z0), .null, .null, .null, .null, .null, .null, .null, .null, .null, .null, .null, .null, .null, .null, .null] .null := A7
  refine og_aloadN X7 25 d16_24 rfl rfl rfl ?_
  refine og_iloadN X7 26 d16_25 rfl rfl ?_
  refine og_aloadN X7 27 d16_26 rfl rfl rfl ?_
  refine own_len X7 28 d16_27 f8 rfl ?_
  refine own_stat X7 31 (argsL := [(.int 0), (.int 17)]) (rest := [(.ref a)]) d16_28 (rd_inc0 l Z a0 hw n0 h7 hWd [] X7.old   ) (ow hw 111 rfl) (ow hw 112 rfl) (ow hw 26 rfl) (ow hw 113 rfl) (by decide) (lenOf pd__28II_29I rfl) rfl rfl rfl (W := 1) rfl (by decide) (by decide) (by decide) (by decide) all0 rfl ?_
  intro T9 h9 v9 X9 K9 hQ9
  obtain rfl := hQ9
  show OGo _ _ _ _ T9 (mkF m 31 #[.val (.ref a), .val (.ref el), .val (.int 0), .val (.ref v)] [(.int 1), (.ref a)])
  have f10 := q2.keep K5 nin0
  have f11 := f10.keep K7 (ninS (own_neA ((q0.keep K5).keep K7) (ow hw 25 rfl) f8) nin0)
  have f12 := f11.keep K9 nin0
  have f13 := q0.keep K5
  have f14 := f13.keep K7
  have f15 := f14.keep K9
  have f16 := q1.keep K5 nin0
  have f17 := f16.keep K7 (ninS (own_neA f14 (ow hw 25 rfl) f8) nin0)
  have f18 := f17.keep K9 nin0
  have f19 := q3.keep K5 nin0
  have f20 := f19.keep K7 (ninS (own_neA f14 (ow hw 25 rfl) f8) nin0)
  have f21 := f20.keep K9 nin0
  refine own_put X9 34 d16_31 (host := "") (Or.inl (ow hw 109 rfl)) Via.refl f12 f15 (Or.inl (ow hw 110 rfl)) (ow hw 25 rfl) (ty := .int) (by decide) rfl rfl (om 0 rfl) rfl ?_
  intro T22 h22 X22 W22 K22 F22
  have f23 := Fld.other W22 f18 (Or.inr (slot_ne (Or.inl (ow hw 40 rfl)) (Or.inl (ow hw 110 rfl)) (by decide) (t := (.array (.object "java/lang/Object"))) (t' := .int) (by decide) (by decide)))
  have f24 := Fld.other W22 f21 (Or.inr (slot_ne (Or.inl (ow hw 107 rfl)) (Or.inl (ow hw 110 rfl)) (by decide) (t := .int) (t' := .int) (by decide) (by decide)))
  refine og_aloadN X22 35 d16_34 rfl rfl rfl ?_
  have f25 := f8.keep K9 nin0
  have f26 := f25.keep K22 (ninS (Ne.symm (own_neA f15 (ow hw 25 rfl) f25)) nin0)
  refine own_retA X22 d16_35 hret rfl rfl (by decide) (by decide) ?_
  exact ⟨rfl, f26⟩
theorem rd_po (l : Launch) (Z : State) (a0 : Array Value) (hw : ∀ d ∈ tables_1, d.before a0 Z = true) (n0 : Nat) (h0 : Heap) (hWd : OWorld Z a0) (wc : List Jvm.Cond) (O0 : Old Z n0 h0) (a : Addr) (el : Addr) (ke : ClassId) (v : Addr) (z0 : Addr) (q0 : Exa Z h0 a "java/util/ArrayDeque") (q1 : Fld Z h0 a "java/util/ArrayDeque" "elements" "[Ljava/lang/Object;" (.ref el)) (q2 : Fld Z h0 a "java/util/ArrayDeque" "head" "I" (.int 0)) (q3 : Fld Z h0 a "java/util/ArrayDeque" "tail" "I" (.int 2)) (q4 : Arv Z h0 el ke (.object "java/lang/Object") (17 : Int32) [(.ref v), (.ref z0), .null, .null, .null, .null, .null, .null, .null, .null, .null, .null, .null, .null, .null, .null, .null] .null) (q5 : Ovr Z ke "java/lang/Object") (g0 : n0 ≤ a ∧ a < h0.size) (g1 : n0 ≤ el ∧ el < h0.size) :
    OMet l Z own_EL n0 (⟨"java/util/ArrayDeque", "poll", "()Ljava/lang/Object;"⟩ : MethodName) (Jvm.Cond.code (⟨"java/util/ArrayDeque", "poll", "()Ljava/lang/Object;"⟩ : MethodName) jdk_21_method_31_code 1 (some (.object "java/lang/Object")) :: wc) ({ frames := 2, cells := 0, slots := 0, locals := 29 } : Room) #[(.ref a)] h0 [a, el] (fun vq hq => vq = some (.ref v) ∧ Arv Z hq el ke (.object "java/lang/Object") (17 : Int32) [.null, (.ref z0), .null, .null, .null, .null, .null, .null, .null, .null, .null, .null, .null, .null, .null, .null, .null] .null) := by
  refine own_enter #[.val (.ref a)] pn_java_util_ArrayDeque_poll___Ljava_lang_Object_ (ef_rd_po a el ke v z0) hWd.1 O0 (allS g0 (allS g1 all0)) ?_
  intro p e s m below meth c T0 X0 hnm hret
  refine og_aloadN X0 1 d15_0 rfl rfl rfl ?_
  refine own_virt X0 4 (a := a) (argsL := []) (rest := []) d15_1 q0 (fun _ hZ => notFace_of_selects (args := #[]) (mvT hZ (ow hw 131 rfl))) (rd_pf l Z a0 hw n0 h0 hWd [] X0.old a el ke v z0 q0 q1 q2 q3 q4 q5 (own_svb X0 (om 0 rfl)) (own_svb X0 (om 1 rfl))) (ow hw 128 rfl) (ow hw 129 rfl) (ow hw 131 rfl) (ow hw 130 rfl) (ow hw 26 rfl) (ow hw 132 rfl) (by decide) (lenOf pd__28_29Ljava_2flang_2fObject_3b rfl) rfl rfl rfl (W := 0) rfl (by decide) (by decide) (by decide) (by decide) (allS (om 0 rfl) (allS (om 1 rfl) all0)) rfl ?_
  intro T1 h1 v1 X1 K1 hQ1
  obtain ⟨rfl, f2⟩ := hQ1
  show OGo _ _ _ _ T1 (mkF m 4 #[.val (.ref a)] [(.ref v)])
  refine own_retA X1 d15_4 hret rfl rfl (by decide) (by decide) ?_
  exact ⟨rfl, f2⟩
theorem rd_rf (l : Launch) (Z : State) (a0 : Array Value) (hw : ∀ d ∈ tables_1, d.before a0 Z = true) (n0 : Nat) (h0 : Heap) (hWd : OWorld Z a0) (wc : List Jvm.Cond) (O0 : Old Z n0 h0) (a : Addr) (el : Addr) (ke : ClassId) (v : Addr) (z0 : Addr) (q0 : Exa Z h0 a "java/util/ArrayDeque") (q1 : Fld Z h0 a "java/util/ArrayDeque" "elements" "[Ljava/lang/Object;" (.ref el)) (q2 : Fld Z h0 a "java/util/ArrayDeque" "head" "I" (.int 0)) (q3 : Fld Z h0 a "java/util/ArrayDeque" "tail" "I" (.int 2)) (q4 : Arv Z h0 el ke (.object "java/lang/Object") (17 : Int32) [(.ref v), (.ref z0), .null, .null, .null, .null, .null, .null, .null, .null, .null, .null, .null, .null, .null, .null, .null] .null) (q5 : Ovr Z ke "java/lang/Object") (g0 : n0 ≤ a ∧ a < h0.size) (g1 : n0 ≤ el ∧ el < h0.size) :
    OMet l Z own_EL n0 (⟨"java/util/ArrayDeque", "removeFirst", "()Ljava/lang/Object;"⟩ : MethodName) (Jvm.Cond.code (⟨"java/util/ArrayDeque", "removeFirst", "()Ljava/lang/Object;"⟩ : MethodName) jdk_21_method_18_code 2 (some (.object "java/lang/Object")) :: wc) ({ frames := 2, cells := 0, slots := 0, locals := 29 } : Room) #[(.ref a)] h0 [a, el] (fun vq hq => vq = some (.ref v) ∧ Arv Z hq el ke (.object "java/lang/Object") (17 : Int32) [.null, (.ref z0), .null, .null, .null, .null, .null, .null, .null, .null, .null, .null, .null, .null, .null, .null, .null] .null) := by
  refine own_enter #[.val (.ref a), .unset] pn_java_util_ArrayDeque_removeFirst___Ljava_lang_Object_ (ef_rd_rf a el ke v z0) hWd.1 O0 (allS g0 (allS g1 all0)) ?_
  intro p e s m below meth c T0 X0 hnm hret
  refine og_aloadN X0 1 d19_0 rfl rfl rfl ?_
  refine own_virt X0 4 (a := a) (argsL := []) (rest := []) d19_1 q0 (fun _ hZ => notFace_of_selects (args := #[]) (mvT hZ (ow hw 131 rfl))) (rd_pf l Z a0 hw n0 h0 hWd [] X0.old a el ke v z0 q0 q1 q2 q3 q4 q5 (own_svb X0 (om 0 rfl)) (own_svb X0 (om 1 rfl))) (ow hw 128 rfl) (ow hw 129 rfl) (ow hw 131 rfl) (ow hw 130 rfl) (ow hw 26 rfl) (ow hw 132 rfl) (by decide) (lenOf pd__28_29Ljava_2flang_2fObject_3b rfl) rfl rfl rfl (W := 0) rfl (by decide) (by decide) (by decide) (by decide) (allS (om 0 rfl) (allS (om 1 rfl) all0)) rfl ?_
  intro T1 h1 v1 X1 K1 hQ1
  obtain ⟨rfl, f2⟩ := hQ1
  show OGo _ _ _ _ T1 (mkF m 4 #[.val (.ref a), .unset] [(.ref v)])
  refine og_astoreN X1 5 #[.val (.ref a), .val (.ref v)] d19_4 rfl rfl rfl ?_
  refine og_aloadN X1 6 d19_5 rfl rfl rfl ?_
  refine og_nonnullY X1 17 d19_6 (by decide) (by decide) ?_
  refine og_aloadN X1 18 d19_17 rfl rfl rfl ?_
  refine own_retA X1 d19_18 hret rfl rfl (by decide) (by decide) ?_
  exact ⟨rfl, f2⟩
theorem rd_re (l : Launch) (Z : State) (a0 : Array Value) (hw : ∀ d ∈ tables_1, d.before a0 Z = true) (n0 : Nat) (h0 : Heap) (hWd : OWorld Z a0) (wc : List Jvm.Cond) (O0 : Old Z n0 h0) (a : Addr) (el : Addr) (ke : ClassId) (v : Addr) (z0 : Addr) (q0 : Exa Z h0 a "java/util/ArrayDeque") (q1 : Fld Z h0 a "java/util/ArrayDeque" "elements" "[Ljava/lang/Object;" (.ref el)) (q2 : Fld Z h0 a "java/util/ArrayDeque" "head" "I" (.int 0)) (q3 : Fld Z h0 a "java/util/ArrayDeque" "tail" "I" (.int 2)) (q4 : Arv Z h0 el ke (.object "java/lang/Object") (17 : Int32) [(.ref v), (.ref z0), .null, .null, .null, .null, .null, .null, .null, .null, .null, .null, .null, .null, .null, .null, .null] .null) (q5 : Ovr Z ke "java/lang/Object") (g0 : n0 ≤ a ∧ a < h0.size) (g1 : n0 ≤ el ∧ el < h0.size) :
    OMet l Z own_EL n0 (⟨"java/util/ArrayDeque", "remove", "()Ljava/lang/Object;"⟩ : MethodName) (Jvm.Cond.code (⟨"java/util/ArrayDeque", "remove", "()Ljava/lang/Object;"⟩ : MethodName) jdk_21_method_30_code 1 (some (.object "java/lang/Object")) :: wc) ({ frames := 3, cells := 0, slots := 0, locals := 42 } : Room) #[(.ref a)] h0 [a, el] (fun vq hq => vq = some (.ref v) ∧ Arv Z hq el ke (.object "java/lang/Object") (17 : Int32) [.null, (.ref z0), .null, .null, .null, .null, .null, .null, .null, .null, .null, .null, .null, .null, .null, .null, .null] .null) := by
  refine own_enter #[.val (.ref a)] pn_java_util_ArrayDeque_remove___Ljava_lang_Object_ (ef_rd_re a el ke v z0) hWd.1 O0 (allS g0 (allS g1 all0)) ?_
  intro p e s m below meth c T0 X0 hnm hret
  refine og_aloadN X0 1 d18_0 rfl rfl rfl ?_
  refine own_virt X0 4 (a := a) (argsL := []) (rest := []) d18_1 q0 (fun _ hZ => notFace_of_selects (args := #[]) (mvT hZ (ow hw 147 rfl))) (rd_rf l Z a0 hw n0 h0 hWd [] X0.old a el ke v z0 q0 q1 q2 q3 q4 q5 (own_svb X0 (om 0 rfl)) (own_svb X0 (om 1 rfl))) (ow hw 144 rfl) (ow hw 145 rfl) (ow hw 147 rfl) (ow hw 146 rfl) (ow hw 26 rfl) (ow hw 148 rfl) (by decide) (lenOf pd__28_29Ljava_2flang_2fObject_3b rfl) rfl rfl rfl (W := 0) rfl (by decide) (by decide) (by decide) (by decide) (allS (om 0 rfl) (allS (om 1 rfl) all0)) rfl ?_
  intro T1 h1 v1 X1 K1 hQ1
  obtain ⟨rfl, f2⟩ := hQ1
  show OGo _ _ _ _ T1 (mkF m 4 #[.val (.ref a)] [(.ref v)])
  refine own_retA X1 d18_4 hret rfl rfl (by decide) (by decide) ?_
  exact ⟨rfl, f2⟩
theorem rm6 (l : Launch) (Z : State) (a0 : Array Value) (hw : ∀ d ∈ tables_1, d.before a0 Z = true) (n0 : Nat) (h0 : Heap) (hWd : OWorld Z a0) (wc : List Jvm.Cond) (O0 : Old Z n0 h0)   :
    OMet l Z own_EL n0 (⟨"com/example/bote/bote/service/SendQueue$Kind", "values", "()[Lcom/example/bote/bote/service/SendQueue$Kind;"⟩ : MethodName) (Jvm.Cond.code (⟨"com/example/bote/bote/service/SendQueue$Kind", "values", "()[Lcom/example/bote/bote/service/SendQueue$Kind;"⟩ : MethodName) prog_26_method_1_code 0 (some (.array (.object "com/example/bote/bote/service/SendQueue$Kind"))) :: wc) ({ frames := 1, cells := 1, slots := 3, locals := 14 } : Room) #[] h0 [] (fun vq hq => ∃ (r : Addr) (kr : ClassId) (vs : List Value), vq = some (.ref r) ∧ h0.size ≤ r ∧ Arv Z hq r kr (.object "com/example/bote/bote/service/SendQueue$Kind") (3 : Int32) vs .null) := by
  refine own_enter #[] pn_com_example_bote_bote_service_SendQueue_Kind_values____Lcom_example_bote_bote_service_SendQueue_Kind_ (ef_rm6) hWd.1 O0 all0 ?_
  intro p e s m below meth c T0 X0 hnm hret
  refine own_getS X0 3 d6_0 (host := "") (Or.inl (ow hw 48 rfl)) Via.refl hWd.2.2.2.2.2.2.1 rfl ?_
  intro T1 X2
  obtain ⟨ck3, vv3, oA3⟩ := hWd.2.2.2.2.2.2.2.2
  have f4 := oA3.ext X2.old.2
  have f5 := (hWd.2.2.2.2.2.2.2.1).ext X2.old.2
  refine own_clone X2 6 (cap := 3) d6_3 f4 f5 (ow hw 50 rfl) (ow hw 51 rfl) (ow hw 55 rfl) (ow hw 53 rfl) (ow hw 54 rfl) (ow hw 56 rfl) rfl (W := 0) rfl (by decide) (by decide) (by decide) (by decide) (by decide) rfl ?_
  intro T6 h6 b6 X6 K6 G6 U6 A6 E6
  refine own_cast X6 9 d6_6 (ow hw 58 rfl) (Ins.self E6) rfl ?_
  intro T7 X8
  refine own_retA X8 d6_9 hret rfl rfl (by decide) (by decide) ?_
  exact ⟨b6, ck3, vv3, rfl, G6, A6⟩
theorem rm2 (l : Launch) (Z : State) (a0 : Array Value) (hw : ∀ d ∈ tables_1, d.before a0 Z = true) (n0 : Nat) (h0 : Heap) (hWd : OWorld Z a0) (wc : List Jvm.Cond) (O0 : Old Z n0 h0) (a : Addr) (q0 : Exa Z h0 a "com/example/bote/bote/service/SendQueue") (q1 : Fld Z h0 a "com/example/bote/bote/service/SendQueue" "items" "Ljava/util/Deque;" .null) (q2 : Fld Z h0 a "com/example/bote/bote/service/SendQueue" "kinds" "Ljava/util/Deque;" .null) (q3 : Fld Z h0 a "com/example/bote/bote/service/SendQueue" "waiting" "[I" .null) (g0 : n0 ≤ a ∧ a < h0.size) :
    OMet l Z own_EL n0 (⟨"com/example/bote/bote/service/SendQueue", "<init>", "()V"⟩ : MethodName) (Jvm.Cond.code (⟨"com/example/bote/bote/service/SendQueue", "<init>", "()V"⟩ : MethodName) prog_25_method_1_code 1 none :: wc) ({ frames := 3, cells := 6, slots := 46, locals := 38 } : Room) #[(.ref a)] h0 [a] (fun vq hq => ∃ (d1 : Addr) (e1 : Addr) (ke1 : ClassId) (d2 : Addr) (e2 : Addr) (ke2 : ClassId) (w : Addr) (kw : ClassId), vq = none ∧ h0.size ≤ d1 ∧ h0.size ≤ e1 ∧ h0.size ≤ d2 ∧ h0.size ≤ e2 ∧ h0.size ≤ w ∧ Fld Z hq a "com/example/bote/bote/service/SendQueue" "items" "Ljava/util/Deque;" (.ref d1) ∧ Fld Z hq a "com/example/bote/bote/service/SendQueue" "kinds" "Ljava/util/Deque;" (.ref d2) ∧ Fld Z hq a "com/example/bote/bote/service/SendQueue" "waiting" "[I" (.ref w) ∧ Exa Z hq d1 "java/util/ArrayDeque" ∧ Fld Z hq d1 "java/util/ArrayDeque" "elements" "[Ljava/lang/Object;" (.ref e1) ∧ Fld Z hq d1 "java/util/ArrayDeque" "head" "I" (.int 0) ∧ Fld Z hq d1 "java/util/ArrayDeque" "tail" "I" (.int 0) ∧ Arv Z hq e1 ke1 (.object "java/lang/Object") (17 : Int32) [.null, .null, .null, .null, .null, .null, .null, .null, .null, .null, .null, .null, .null, .null, .null, .null, .null] .null ∧ Ovr Z ke1 "java/lang/Object" ∧ Exa Z hq d2 "java/util/ArrayDeque" ∧ Fld Z hq d2 "java/util/ArrayDeque" "elements" "[Ljava/lang/Object;" (.ref e2) ∧ Fld Z hq d2 "java/util/ArrayDeque" "head" "I" (.int 0) ∧ Fld Z hq d2 "java/util/ArrayDeque" "tail" "I" (.int 0) ∧ Arv Z hq e2 ke2 (.object "java/lang/Object") (17 : Int32) [.null, .null, .null, .null, .null, .null, .null, .null, .null, .null, .null, .null, .null, .null, .null, .null, .null] .null ∧ Ovr Z ke2 "java/lang/Object" ∧ Arv Z hq w kw .int (3 : Int32) [(.int 0), (.int 0), (.int 0)] (.int 0) ∧ d1 ≠ d2 ∧ e1 ≠ e2 ∧ w ≠ e1 ∧ w ≠ e2) := by
  refine own_enter #[.val (.ref a)] pn_com_example_bote_bote_service_SendQueue__init____V (ef_rm2 a) hWd.1 O0 (allS g0 all0) ?_
  intro p e s m below meth c T0 X0 hnm hret
  refine og_aloadN X0 1 d2_0 rfl rfl rfl ?_
  refine own_obj0 X0 4 (a := a) d2_1 (ow hw 21 rfl) (ow hw 22 rfl) (ow hw 23 rfl) rfl (W := 0) rfl (by decide) (by decide) rfl ?_
  intro T1 X2
  refine og_aloadN X2 5 d2_4 rfl rfl rfl ?_
  refine own_new X2 8 d2_5 (ow hw 24 rfl) (ow hw 25 rfl) (ow hw 26 rfl) (by decide) (by decide) rfl ?_
  intro T3 h3 b3 X3 K3 G3 U3 E3 D3
  have f4 : Fld Z h3 b3 "java/util/ArrayDeque" "elements" "[Ljava/lang/Object;" .null := D3 (Or.inl (ow hw 40 rfl)) (ty := (.array (.object "java/lang/Object"))) (by decide)
  have f5 : Fld Z h3 b3 "java/util/ArrayDeque" "tail" "I" (.int 0) := D3 (Or.inl (ow hw 107 rfl)) (ty := .int) (by decide)
  have f6 : Fld Z h3 b3 "java/util/ArrayDeque" "head" "I" (.int 0) := D3 (Or.inl (ow hw 110 rfl)) (ty := .int) (by decide)
  refine og_dup X3 9 d2_8 rfl rfl ?_
  refine own_spec X3 12 (a := b3) (argsL := []) (rest := [(.ref b3), (.ref a)]) d2_9 rfl (rm4 l Z a0 hw n0 h3 hWd [] X3.old b3 .null (0 : Int32) (0 : Int32) E3 f4 f6 f5 (own_svb X3 (om 0 rfl))) (ow hw 27 rfl) (ow hw 28 rfl) (ow hw 26 rfl) (ow hw 29 rfl) (by decide) (lenOf pd__28_29V rfl) rfl rfl rfl (W := 2) rfl (by decide) (by decide) (by decide) (by decide) (allS (om 0 rfl) all0) rfl ?_
  intro T7 h7 v7 X7 K7 hQ7
  obtain ⟨el7, ke7, rfl, ge_el7, f8, f9, f10, f11, f12⟩ := hQ7
  show OGo _ _ _ _ T7 (mkF m 12 #[.val (.ref a)] [(.ref b3), (.ref a)])
  have f13 := q1.keep K3 nin0
  have f14 := f13.keep K7 (ninS (Nat.ne_of_lt (Nat.lt_of_lt_of_le q0.lt G3)) nin0)
  have f15 := q0.keep K3
  have f16 := f15.keep K7
  have f17 := q2.keep K3 nin0
  have f18 := f17.keep K7 (ninS (Nat.ne_of_lt (Nat.lt_of_lt_of_le q0.lt G3)) nin0)
  have f19 := q3.keep K3 nin0
  have f20 := f19.keep K7 (ninS (Nat.ne_of_lt (Nat.lt_of_lt_of_le q0.lt G3)) nin0)
  refine own_put X7 15 d2_12 (host := "") (Or.inl (ow hw 41 rfl)) Via.refl f14 f16 (Or.inr ⟨(ow hw 42 rfl), rfl, hnm⟩) (ow hw 16 rfl) (ty := (.object "java/util/Deque")) (by decide) rfl rfl (om 1 rfl) rfl ?_
  intro T21 h21 X21 W21 K21 F21
  have f22 := Fld.other W21 f18 (Or.inr (slot_ne (Or.inr (ow hw 44 rfl)) (Or.inr (ow hw 42 rfl)) (by decide) (t := (.object "java/util/Deque")) (t' := (.object "java/util/Deque")) (by decide) (by decide)))
  have f23 := Fld.other W21 f20 (Or.inr (slot_ne (Or.inr (ow hw 62 rfl)) (Or.inr (ow hw 42 rfl)) (by decide) (t := (.array .int)) (t' := (.object "java/util/Deque")) (by decide) (by decide)))
  refine og_aloadN X21 16 d2_15 rfl rfl rfl ?_
  refine own_new X21 19 d2_16 (ow hw 24 rfl) (ow hw 25 rfl) (ow hw 26 rfl) (by decide) (by decide) rfl ?_
  intro T24 h24 b24 X24 K24 G24 U24 E24 D24
  have f25 : Fld Z h24 b24 "java/util/ArrayDeque" "elements" "[Ljava/lang/Object;" .null := D24 (Or.inl (ow hw 40 rfl)) (ty := (.array (.object "java/lang/Object"))) (by decide)
  have f26 : Fld Z h24 b24 "java/util/ArrayDeque" "tail" "I" (.int 0) := D24 (Or.inl (ow hw 107 rfl)) (ty := .int) (by decide)
  have f27 : Fld Z h24 b24 "java/util/ArrayDeque" "head" "I" (.int 0) := D24 (Or.inl (ow hw 110 rfl)) (ty := .int) (by decide)
  refine og_dup X24 20 d2_19 rfl rfl ?_
  refine own_spec X24 23 (a := b24) (argsL := []) (rest := [(.ref b24), (.ref a)]) d2_20 rfl (rm4 l Z a0 hw n0 h24 hWd [] X24.old b24 .null (0 : Int32) (0 : Int32) E24 f25 f27 f26 (own_svb X24 (om 0 rfl))) (ow hw 27 rfl) (ow hw 28 rfl) (ow hw 26 rfl) (ow hw 29 rfl) (by decide) (lenOf pd__28_29V rfl) rfl rfl rfl (W := 2) rfl (by decide) (by decide) (by decide) (by decide) (allS (om 0 rfl) all0) rfl ?_
  intro T28 h28 v28 X28 K28 hQ28
  obtain ⟨el28, ke28, rfl, ge_el28, f29, f30, f31, f32, f33⟩ := hQ28
  show OGo _ _ _ _ T28 (mkF m 23 #[.val (.ref a)] [(.ref b24), (.ref a)])
  have f34 := f22.keep K24 nin0
  have f35 := f34.keep K28 (ninS (Nat.ne_of_lt (Nat.lt_of_lt_of_le (Nat.lt_of_lt_of_le q0.lt (Nat.le_trans (Nat.le_trans K3.1 K7.1) K21.1)) G24)) nin0)
  have f36 := f16.keep K21
  have f37 := f36.keep K24
  have f38 := f37.keep K28
  have f39 := F21.keep K24 nin0
  have f40 := f39.keep K28 (ninS (Nat.ne_of_lt (Nat.lt_of_lt_of_le (Nat.lt_of_lt_of_le q0.lt (Nat.le_trans (Nat.le_trans K3.1 K7.1) K21.1)) G24)) nin0)
  have f41 := f23.keep K24 nin0
  have f42 := f41.keep K28 (ninS (Nat.ne_of_lt (Nat.lt_of_lt_of_le (Nat.lt_of_lt_of_le q0.lt (Nat.le_trans (Nat.le_trans K3.1 K7.1) K21.1)) G24)) nin0)
  refine own_put X28 26 d2_23 (host := "") (Or.inl (ow hw 43 rfl)) Via.refl f35 f38 (Or.inr ⟨(ow hw 44 rfl), rfl, hnm⟩) (ow hw 16 rfl) (ty := (.object "java/util/Deque")) (by decide) rfl rfl (om 2 rfl) rfl ?_
  intro T43 h43 X43 W43 K43 F43
  have f44 := Fld.other W43 f40 (Or.inr (slot_ne (Or.inr (ow hw 42 rfl)) (Or.inr (ow hw 44 rfl)) (by decide) (t := (.object "java/util/Deque")) (t' := (.object "java/util/Deque")) (by decide) (by decide)))
  have f45 := Fld.other W43 f42 (Or.inr (slot_ne (Or.inr (ow hw 62 rfl)) (Or.inr (ow hw 44 rfl)) (by decide) (t := (.array .int)) (t' := (.object "java/util/Deque")) (by decide) (by decide)))
  refine og_aloadN X43 27 d2_26 rfl rfl rfl ?_
  refine own_stat X43 30 (argsL := []) (rest := [(.ref a)]) d2_27 (rm6 l Z a0 hw n0 h43 hWd [] X43.old   ) (ow hw 45 rfl) (ow hw 46 rfl) (ow hw 7 rfl) (ow hw 47 rfl) (by decide) (lenOf pd__28_29_5bLcom_2fexample_2fbote_2fbote_2fservice_2fSendQueue_24Kind_3b rfl) rfl rfl rfl (W := 1) rfl (by decide) (by decide) (by decide) (by decide) all0 rfl ?_
  intro T46 h46 v46 X46 K46 hQ46
  obtain ⟨r46, kr46, vs46, rfl, ge_r46, f47⟩ := hQ46
  show OGo _ _ _ _ T46 (mkF m 30 #[.val (.ref a)] [(.ref r46), (.ref a)])
  refine own_len X46 31 d2_30 f47 rfl ?_
  refine own_arr X46 33 d2_31 (ow hw 60 rfl) (by decide) (cap := 3) (by decide) (by decide) (by decide) (by decide) rfl ?_
  intro T48 h48 b48 kb48 X48 K48 G48 U48 A48
  have f49 : Arv Z h48 b48 kb48 .int (3 : Int32) [(.int 0), (.int 0), (.int 0)] (.int 0) := A48
  have f50 := f45.keep K46 nin0
  have f51 := f50.keep K48 nin0
  have f52 := f38.keep K43
  have f53 := f52.keep K46
  have f54 := f53.keep K48
  have f55 := f44.keep K46 nin0
  have f56 := f55.keep K48 nin0
  have f57 := F43.keep K46 nin0
  have f58 := f57.keep K48 nin0
  refine own_put X48 36 d2_33 (host := "") (Or.inl (ow hw 61 rfl)) Via.refl f51 f54 (Or.inr ⟨(ow hw 62 rfl), rfl, hnm⟩) (ow hw 16 rfl) (ty := (.array .int)) (by decide) rfl rfl (om 3 rfl) rfl ?_
  intro T59 h59 X59 W59 K59 F59
  have f60 := Fld.other W59 f56 (Or.inr (slot_ne (Or.inr (ow hw 42 rfl)) (Or.inr (ow hw 62 rfl)) (by decide) (t := (.object "java/util/Deque")) (t' := (.array .int)) (by decide) (by decide)))
  have f61 := Fld.other W59 f58 (Or.inr (slot_ne (Or.inr (ow hw 44 rfl)) (Or.inr (ow hw 62 rfl)) (by decide) (t := (.object "java/util/Deque")) (t' := (.array .int)) (by decide) (by decide)))
  have f62 := f8.keep K21 (ninS (Nat.ne_of_gt (Nat.lt_of_lt_of_le q0.lt G3)) nin0)
  have f63 := f62.keep K24 nin0
  have f64 := f63.keep K28 (ninS (Nat.ne_of_lt (Nat.lt_of_lt_of_le (Nat.lt_of_lt_of_le U3 (Nat.le_trans K7.1 K21.1)) G24)) nin0)
  have f65 := f64.keep K43 (ninS (Nat.ne_of_gt (Nat.lt_of_lt_of_le q0.lt G3)) nin0)
  have f66 := f65.keep K46 nin0
  have f67 := f66.keep K48 nin0
  have f68 := f67.keep K59 (ninS (Nat.ne_of_gt (Nat.lt_of_lt_of_le q0.lt G3)) nin0)
  have f69 := f11.keep K21 (ninS (Nat.ne_of_gt (Nat.lt_of_lt_of_le (Nat.lt_of_lt_of_le q0.lt K3.1) ge_el7)) nin0)
  have f70 := f69.keep K24 nin0
  have f71 := f70.keep K28 (ninS (Nat.ne_of_lt (Nat.lt_of_lt_of_le (Nat.lt_of_lt_of_le f11.lt K21.1) G24)) nin0)
  have f72 := f71.keep K43 (ninS (Nat.ne_of_gt (Nat.lt_of_lt_of_le (Nat.lt_of_lt_of_le q0.lt K3.1) ge_el7)) nin0)
  have f73 := f72.keep K46 nin0
  have f74 := f73.keep K48 nin0
  have f75 := f74.keep K59 (ninS (Nat.ne_of_gt (Nat.lt_of_lt_of_le (Nat.lt_of_lt_of_le q0.lt K3.1) ge_el7)) nin0)
  have f76 := E3.keep K7
  have f77 := f76.keep K21
  have f78 := f77.keep K24
  have f79 := f78.keep K28
  have f80 := f79.keep K43
  have f81 := f80.keep K46
  have f82 := f81.keep K48
  have f83 := f82.keep K59
  have f84 := f9.keep K21 (ninS (Nat.ne_of_gt (Nat.lt_of_lt_of_le q0.lt G3)) nin0)
  have f85 := f84.keep K24 nin0
  have f86 := f85.keep K28 (ninS (Nat.ne_of_lt (Nat.lt_of_lt_of_le (Nat.lt_of_lt_of_le U3 (Nat.le_trans K7.1 K21.1)) G24)) nin0)
  have f87 := f86.keep K43 (ninS (Nat.ne_of_gt (Nat.lt_of_lt_of_le q0.lt G3)) nin0)
  have f88 := f87.keep K46 nin0
  have f89 := f88.keep K48 nin0
  have f90 := f89.keep K59 (ninS (Nat.ne_of_gt (Nat.lt_of_lt_of_le q0.lt G3)) nin0)
  have f91 := f10.keep K21 (ninS (Nat.ne_of_gt (Nat.lt_of_lt_of_le q0.lt G3)) nin0)
  have f92 := f91.keep K24 nin0
  have f93 := f92.keep K28 (ninS (Nat.ne_of_lt (Nat.lt_of_lt_of_le (Nat.lt_of_lt_of_le U3 (Nat.le_trans K7.1 K21.1)) G24)) nin0)
  have f94 := f93.keep K43 (ninS (Nat.ne_of_gt (Nat.lt_of_lt_of_le q0.lt G3)) nin0)
  have f95 := f94.keep K46 nin0
  have f96 := f95.keep K48 nin0
  have f97 := f96.keep K59 (ninS (Nat.ne_of_gt (Nat.lt_of_lt_of_le q0.lt G3)) nin0)
  have f98 := f29.keep K43 (ninS (Nat.ne_of_gt (Nat.lt_of_lt_of_le (Nat.lt_of_lt_of_le q0.lt (Nat.le_trans (Nat.le_trans K3.1 K7.1) K21.1)) G24)) nin0)
  have f99 := f98.keep K46 nin0
  have f100 := f99.keep K48 nin0
  have f101 := f100.keep K59 (ninS (Nat.ne_of_gt (Nat.lt_of_lt_of_le (Nat.lt_of_lt_of_le q0.lt (Nat.le_trans (Nat.le_trans K3.1 K7.1) K21.1)) G24)) nin0)
  have f102 := f32.keep K43 (ninS (Nat.ne_of_gt (Nat.lt_of_lt_of_le (Nat.lt_of_lt_of_le q0.lt (Nat.le_trans (Nat.le_trans (Nat.le_trans K3.1 K7.1) K21.1) K24.1)) ge_el28)) nin0)
  have f103 := f102.keep K46 nin0
  have f104 := f103.keep K48 nin0
  have f105 := f104.keep K59 (ninS (Nat.ne_of_gt (Nat.lt_of_lt_of_le (Nat.lt_of_lt_of_le q0.lt (Nat.le_trans (Nat.le_trans (Nat.le_trans K3.1 K7.1) K21.1) K24.1)) ge_el28)) nin0)
  have f106 := E24.keep K28
  have f107 := f106.keep K43
  have f108 := f107.keep K46
  have f109 := f108.keep K48
  have f110 := f109.keep K59
  have f111 := f30.keep K43 (ninS (Nat.ne_of_gt (Nat.lt_of_lt_of_le (Nat.lt_of_lt_of_le q0.lt (Nat.le_trans (Nat.le_trans K3.1 K7.1) K21.1)) G24)) nin0)
  have f112 := f111.keep K46 nin0
  have f113 := f112.keep K48 nin0
  have f114 := f113.keep K59 (ninS (Nat.ne_of_gt (Nat.lt_of_lt_of_le (Nat.lt_of_lt_of_le q0.lt (Nat.le_trans (Nat.le_trans K3.1 K7.1) K21.1)) G24)) nin0)
  have f115 := f31.keep K43 (ninS (Nat.ne_of_gt (Nat.lt_of_lt_of_le (Nat.lt_of_lt_of_le q0.lt (Nat.le_trans (Nat.le_trans K3.1 K7.1) K21.1)) G24)) nin0)
  have f116 := f115.keep K46 nin0
  have f117 := f116.keep K48 nin0
  have f118 := f117.keep K59 (ninS (Nat.ne_of_gt (Nat.lt_of_lt_of_le (Nat.lt_of_lt_of_le q0.lt (Nat.le_trans (Nat.le_trans K3.1 K7.1) K21.1)) G24)) nin0)
  have f119 := f49.keep K59 (ninS (Nat.ne_of_gt (Nat.lt_of_lt_of_le (Nat.lt_of_lt_of_le q0.lt (Nat.le_trans (Nat.le_trans (Nat.le_trans (Nat.le_trans (Nat.le_trans (Nat.le_trans K3.1 K7.1) K21.1) K24.1) K28.1) K43.1) K46.1)) G48)) nin0)
  refine own_retV X59 d2_36 hret (by decide) (by decide) ?_
  exact ⟨_, _, _, _, _, _, _, _, rfl, G3, (Nat.le_trans K3.1 ge_el7), (Nat.le_trans (Nat.le_trans (Nat.le_trans K3.1 K7.1) K21.1) G24), (Nat.le_trans (Nat.le_trans (Nat.le_trans (Nat.le_trans K3.1 K7.1) K21.1) K24.1) ge_el28), (Nat.le_trans (Nat.le_trans (Nat.le_trans (Nat.le_trans (Nat.le_trans (Nat.le_trans (Nat.le_trans K3.1 K7.1) K21.1) K24.1) K28.1) K43.1) K46.1) G48), f60, f61, F59, f83, f68, f90, f97, f75, f12, f110, f101, f114, f118, f105, f33, f119, (Nat.ne_of_lt (Nat.lt_of_lt_of_le (Nat.lt_of_lt_of_le U3 (Nat.le_trans K7.1 K21.1)) G24)), (Nat.ne_of_lt (Nat.lt_of_lt_of_le (Nat.lt_of_lt_of_le f11.lt (Nat.le_trans K21.1 K24.1)) ge_el28)), (Nat.ne_of_gt (Nat.lt_of_lt_of_le (Nat.lt_of_lt_of_le f11.lt (Nat.le_trans (Nat.le_trans (Nat.le_trans (Nat.le_trans K21.1 K24.1) K28.1) K43.1) K46.1)) G48)), (Nat.ne_of_gt (Nat.lt_of_lt_of_le (Nat.lt_of_lt_of_le f32.lt (Nat.le_trans K43.1 K46.1)) G48))⟩
theorem rm8 (l : Launch) (Z : State) (a0 : Array Value) (hw : ∀ d ∈ tables_1, d.before a0 Z = true) (n0 : Nat) (h0 : Heap) (hWd : OWorld Z a0) (wc : List Jvm.Cond) (O0 : Old Z n0 h0) (a : Addr) (x : Int32) (q0 : Fld Z h0 a "java/lang/Enum" "ordinal" "I" (.int x)) :
    OMet l Z own_EL n0 (⟨"java/lang/Enum", "ordinal", "()I"⟩ : MethodName) (Jvm.Cond.code (⟨"java/lang/Enum", "ordinal", "()I"⟩ : MethodName) jdk_37_method_2_code 1 (some .int) :: wc) ({ frames := 0, cells := 0, slots := 0, locals := 0 } : Room) #[(.ref a)] h0 [] (fun vq hq => vq = some (.int x)) := by
  refine own_enter #[.val (.ref a)] pn_java_lang_Enum_ordinal___I (ef_rm8 a x) hWd.1 O0 all0 ?_
  intro p e s m below meth c T0 X0 hnm hret
  refine og_aloadN X0 1 d8_0 rfl rfl rfl ?_
  refine own_get X0 4 d8_1 (host := "") (Or.inl (ow hw 75 rfl)) Via.refl q0 rfl ?_
  intro T1 X2
  refine own_retI X2 d8_4 hret (by decide) (by decide) ?_
  exact rfl
theorem rm7 (l : Launch) (Z : State) (a0 : Array Value) (hw : ∀ d ∈ tables_1, d.before a0 Z = true) (n0 : Nat) (h0 : Heap) (hWd : OWorld Z a0) (wc : List Jvm.Cond) (O0 : Old Z n0 h0) (a : Addr) (r : Addr) (o : Int32) (mo : Int32) (w : Addr) (kw : ClassId) (x0 : Int32) (x1 : Int32) (x2 : Int32) (q0 : Fld Z h0 a "com/example/bote/bote/service/SendQueue" "waiting" "[I" (.ref w)) (q1 : Exa Z h0 r "com/example/bote/bote/service/SendQueue$Kind") (q2 : Fld Z h0 r "java/lang/Enum" "ordinal" "I" (.int o)) (q3 : Fld Z h0 r "com/example/bote/bote/service/SendQueue$Kind" "most" "I" (.int mo)) (q4 : Arv Z h0 w kw .int (3 : Int32) [(.int x0), (.int x1), (.int x2)] (.int 0)) (q5 : o = 0 ∨ o = 1 ∨ o = 2) (q6 : ¬ mo < (100 : Int32)) (q7 : own_bd 3 x0) (q8 : own_bd 3 x1) (q9 : own_bd 3 x2) :
    OMet l Z own_EL n0 (⟨"com/example/bote/bote/service/SendQueue", "isFull", "(Lcom/example/bote/bote/service/SendQueue$Kind;)Z"⟩ : MethodName) (Jvm.Cond.code (⟨"com/example/bote/bote/service/SendQueue", "isFull", "(Lcom/example/bote/bote/service/SendQueue$Kind;)Z"⟩ : MethodName) prog_25_method_3_code 2 (some .boolean) :: wc) ({ frames := 1, cells := 0, slots := 0, locals := 13 } : Room) #[(.ref a), (.ref r)] h0 [] (fun vq hq => vq = some (.int 0)) := by
  refine own_enter #[.val (.ref a), .val (.ref r)] pn_com_example_bote_bote_service_SendQueue_isFull__Lcom_example_bote_bote_service_SendQueue_Kind__Z (ef_rm7 a r o mo w kw x0 x1 x2) hWd.1 O0 all0 ?_
  intro p e s m below meth c T0 X0 hnm hret
  refine og_aloadN X0 1 d7_0 rfl rfl rfl ?_
  refine own_get X0 4 d7_1 (host := "") (Or.inl (ow hw 61 rfl)) Via.refl q0 rfl ?_
  intro T1 X2
  refine og_aloadN X2 5 d7_4 rfl rfl rfl ?_
  refine own_virtUp X2 8 rfl (a := r) (argsL := []) (rest := [(.ref w)]) d7_5 q1 (rm8 l Z a0 hw n0 h0 hWd [] X2.old r o q2 ) (ow hw 68 rfl) (ow hw 69 rfl) (ow hw 70 rfl) (ow hw 72 rfl) (ow hw 71 rfl) (ow hw 73 rfl) (ow hw 74 rfl) (by decide) (lenOf pd__28_29I rfl) rfl rfl rfl (W := 1) rfl (by decide) (by decide) (by decide) (by decide) all0 rfl ?_
  intro T3 h3 v3 X3 K3 hQ3
  obtain rfl := hQ3
  show OGo _ _ _ _ T3 (mkF m 8 #[.val (.ref a), .val (.ref r)] [(.int o), (.ref w)])
  rcases q5 with rfl | rfl | rfl
  · -- o is (0 : Int32)
    have f4 := q4.keep K3 nin0
    refine own_ldI X3 9 d7_8 f4 (by decide) (by decide) rfl rfl ?_
    refine og_aloadN X3 10 d7_9 rfl rfl rfl ?_
    have f5 := q3.keep K3 nin0
    refine own_getR X3 13 d7_10 (ow hw 77 rfl) f5 rfl ?_
    refine og_icmpY X3 20 d7_13 (XT.ii_lt_t (own_bdl q7 q6)) (by decide) (by decide) ?_
    refine og_iconst X3 21 (0 : Int32) d7_20 rfl rfl ?_
    refine own_retZ X3 d7_21 hret rfl (by decide) (by decide) ?_
    exact rfl
  · -- o is (1 : Int32)
    have f6 := q4.keep K3 nin0
    refine own_ldI X3 9 d7_8 f6 (by decide) (by decide) rfl rfl ?_
    refine og_aloadN X3 10 d7_9 rfl rfl rfl ?_
    have f7 := q3.keep K3 nin0
    refine own_getR X3 13 d7_10 (ow hw 77 rfl) f7 rfl ?_
    refine og_icmpY X3 20 d7_13 (XT.ii_lt_t (own_bdl q8 q6)) (by decide) (by decide) ?_
    refine og_iconst X3 21 (0 : Int32) d7_20 rfl rfl ?_
    refine own_retZ X3 d7_21 hret rfl (by decide) (by decide) ?_
    exact rfl
  · -- o is (2 : Int32)
    have f8 := q4.keep K3 nin0
    refine own_ldI X3 9 d7_8 f8 (by decide) (by decide) rfl rfl ?_
    refine og_aloadN X3 10 d7_9 rfl rfl rfl ?_
    have f9 := q3.keep K3 nin0
    refine own_getR X3 13 d7_10 (ow hw 77 rfl) f9 rfl ?_
    refine og_icmpY X3 20 d7_13 (XT.ii_lt_t (own_bdl q9 q6)) (by decide) (by decide) ?_
    refine og_iconst X3 21 (0 : Int32) d7_20 rfl rfl ?_
    refine own_retZ X3 d7_21 hret rfl (by decide) (by decide) ?_
    exact rfl
theorem rq_add0 (l : Launch) (Z : State) (a0 : Array Value) (hw : ∀ d ∈ tables_1, d.before a0 Z = true) (n0 : Nat) (h0 : Heap) (hWd : OWorld Z a0) (wc : List Jvm.Cond) (O0 : Old Z n0 h0) (a : Addr) (v : Addr) (r : Addr) (o : Int32) (mo : Int32) (d1 : Addr) (e1 : Addr) (ke1 : ClassId) (d2 : Addr) (e2 : Addr) (ke2 : ClassId) (w : Addr) (kw : ClassId) (x0 : Int32) (x1 : Int32) (x2 : Int32) (q0 : Exa Z h0 a "com/example/bote/bote/service/SendQueue") (q1 : Fld Z h0 a "com/example/bote/bote/service/SendQueue" "items" "Ljava/util/Deque;" (.ref d1)) (q2 : Fld Z h0 a "com/example/bote/bote/service/SendQueue" "kinds" "Ljava/util/Deque;" (.ref d2)) (q3 : Fld Z h0 a "com/example/bote/bote/service/SendQueue" "waiting" "[I" (.ref w)) (q4 : Exa Z h0 d1 "java/util/ArrayDeque") (q5 : Fld Z h0 d1 "java/util/ArrayDeque" "elements" "[Ljava/lang/Object;" (.ref e1)) (q6 : Fld Z h0 d1 "java/util/ArrayDeque" "head" "I" (.int 0)) (q7 : Fld Z h0 d1 "java/util/ArrayDeque" "tail" "I" (.int 0)) (q8 : Arv Z h0 e1 ke1 (.object "java/lang/Object") (17 : Int32) [.null, .null, .null, .null, .null, .null, .null, .null, .null, .null, .null, .null, .null, .null, .null, .null, .null] .null) (q9 : Ovr Z ke1 "java/lang/Object") (q10 : Exa Z h0 d2 "java/util/ArrayDeque") (q11 : Fld Z h0 d2 "java/util/ArrayDeque" "elements" "[Ljava/lang/Object;" (.ref e2)) (q12 : Fld Z h0 d2 "java/util/ArrayDeque" "head" "I" (.int 0)) (q13 : Fld Z h0 d2 "java/util/ArrayDeque" "tail" "I" (.int 0)) (q14 : Arv Z h0 e2 ke2 (.object "java/lang/Object") (17 : Int32) [.null, .null, .null, .null, .null, .null, .null, .null, .null, .null, .null, .null, .null, .null, .null, .null, .null] .null) (q15 : Ovr Z ke2 "java/lang/Object") (q16 : Arv Z h0 w kw .int (3 : Int32) [(.int x0), (.int x1), (.int x2)] (.int 0)) (q17 : Exa Z h0 v "java/lang/Integer") (q18 : Exa Z h0 r "com/example/bote/bote/service/SendQueue$Kind") (q19 : Fld Z h0 r "java/lang/Enum" "ordinal" "I" (.int o)) (q20 : Fld Z h0 r "com/example/bote/bote/service/SendQueue$Kind" "most" "I" (.int mo)) (q21 : d1 ≠ d2) (q22 : e1 ≠ e2) (q23 : w ≠ e1) (q24 : w ≠ e2) (q25 : r < n0) (q26 : o = 0 ∨ o = 1 ∨ o = 2) (q27 : ¬ mo < (100 : Int32)) (q28 : own_bd 0 x0) (q29 : own_bd 0 x1) (q30 : own_bd 0 x2) (g0 : n0 ≤ d1 ∧ d1 < h0.size) (g1 : n0 ≤ e1 ∧ e1 < h0.size) (g2 : n0 ≤ d2 ∧ d2 < h0.size) (g3 : n0 ≤ e2 ∧ e2 < h0.size) (g4 : n0 ≤ w ∧ w < h0.size) :
    OMet l Z own_EL n0 (⟨"com/example/bote/bote/service/SendQueue", "add", "(Ljava/lang/Object;Lcom/example/bote/bote/service/SendQueue$Kind;)Z"⟩ : MethodName) (Jvm.Cond.code (⟨"com/example/bote/bote/service/SendQueue", "add", "(Ljava/lang/Object;Lcom/example/bote/bote/service/SendQueue$Kind;)Z"⟩ : MethodName) prog_25_method_2_code 4 (some .boolean) :: wc) ({ frames := 3, cells := 0, slots := 0, locals := 42 } : Room) #[(.ref a), (.ref v), (.ref r)] h0 [d1, e1, d2, e2, w] (fun vq hq => ∃ (y0 : Int32) (y1 : Int32) (y2 : Int32), vq = some (.int 1) ∧ Fld Z hq d1 "java/util/ArrayDeque" "elements" "[Ljava/lang/Object;" (.ref e1) ∧ Fld Z hq d1 "java/util/ArrayDeque" "head" "I" (.int 0) ∧ Fld Z hq d1 "java/util/ArrayDeque" "tail" "I" (.int 1) ∧ Arv Z hq e1 ke1 (.object "java/lang/Object") (17 : Int32) [(.ref v), .null, .null, .null, .null, .null, .null, .null, .null, .null, .null, .null, .null, .null, .null, .null, .null] .null ∧ Fld Z hq d2 "java/util/ArrayDeque" "elements" "[Ljava/lang/Object;" (.ref e2) ∧ Fld Z hq d2 "java/util/ArrayDeque" "head" "I" (.int 0) ∧ Fld Z hq d2 "java/util/ArrayDeque" "tail" "I" (.int 1) ∧ Arv Z hq e2 ke2 (.object "java/lang/Object") (17 : Int32) [(.ref r), .null, .null, .null, .null, .null, .null, .null, .null, .null, .null, .null, .null, .null, .null, .null, .null] .null ∧ Arv Z hq w kw .int (3 : Int32) [(.int y0), (.int y1), (.int y2)] (.int 0) ∧ own_bd 1 y0 ∧ own_bd 1 y1 ∧ own_bd 1 y2) := by
  refine own_enter #[.val (.ref a), .val (.ref v), .val (.ref r), .unset] pn_com_example_bote_bote_service_SendQueue_add__Ljava_lang_Object_Lcom_example_bote_bote_service_SendQueue_Kind__Z (ef_rq_add0 a v r o mo d1 e1 ke1 d2 e2 ke2 w kw x0 x1 x2) hWd.1 O0 (allS g0 (allS g1 (allS g2 (allS g3 (allS g4 all0))))) ?_
  intro p e s m below meth c T0 X0 hnm hret
  refine og_aloadN X0 1 d10_0 rfl rfl rfl ?_
  refine og_aloadN X0 2 d10_1 rfl rfl rfl ?_
  refine own_virt X0 5 (a := a) (argsL := [(.ref r)]) (rest := []) d10_2 q0 (fun _ hZ => notFace_of_selects (args := #[]) (mvT hZ (ow hw 66 rfl))) (rm7 l Z a0 hw n0 h0 hWd [] X0.old a r o mo w kw x0 x1 x2 q3 q18 q19 q20 q16 q26 q27 (own_bdm q28 (by decide)) (own_bdm q29 (by decide)) (own_bdm q30 (by decide)) ) (ow hw 91 rfl) (ow hw 64 rfl) (ow hw 66 rfl) (ow hw 65 rfl) (ow hw 17 rfl) (ow hw 67 rfl) (by decide) (lenOf pd__28Lcom_2fexample_2fbote_2fbote_2fservice_2fSendQueue_24Kind_3b_29Z rfl) rfl rfl rfl (W := 0) rfl (by decide) (by decide) (by decide) (by decide) all0 rfl ?_
  intro T1 h1 v1 X1 K1 hQ1
  obtain rfl := hQ1
  show OGo _ _ _ _ T1 (mkF m 5 #[.val (.ref a), .val (.ref v), .val (.ref r), .unset] [(.int 0)])
  refine og_ifN X1 8 d10_5 (XT.i0_ne_f (by decide)) rfl ?_
  refine og_iconst X1 9 (1 : Int32) d10_8 rfl rfl ?_
  refine og_goto X1 13 d10_9 (by decide) (by decide) ?_
  refine og_istoreN X1 14 #[.val (.ref a), .val (.ref v), .val (.ref r), .val (.int 1)] d10_13 rfl rfl ?_
  refine og_iloadN X1 15 d10_14 rfl rfl ?_
  refine og_ifN X1 18 d10_15 (XT.i0_eq_f (by decide)) rfl ?_
  refine og_aloadN X1 19 d10_18 rfl rfl rfl ?_
  have f2 := q1.keep K1 nin0
  refine own_get X1 22 d10_19 (host := "") (Or.inl (ow hw 41 rfl)) Via.refl f2 rfl ?_
  intro T3 X4
  refine og_aloadN X4 23 d10_22 rfl rfl rfl ?_
  have f5 := q4.keep K1
  have f6 := q5.keep K1 nin0
  have f7 := q6.keep K1 nin0
  have f8 := q7.keep K1 nin0
  have f9 := q8.keep K1 nin0
  have f10 := q17.keep K1
  refine own_face X4 28 (a := d1) (argsL := [(.ref v)]) (rest := []) d10_23 f5 (rd_adi0 l Z a0 hw n0 h1 hWd [] X4.old d1 e1 ke1 v f5 f6 f7 f8 f9 q9 f10 (own_svb X4 (om 0 rfl)) (own_svb X4 (om 1 rfl))) (ow hw 92 rfl) (ow hw 93 rfl) (ow hw 94 rfl) (ow hw 95 rfl) (ow hw 96 rfl) (ow hw 97 rfl) (ow hw 98 rfl) (ow hw 99 rfl) (ow hw 26 rfl) (ow hw 100 rfl) (by decide) (lenOf pd__28Ljava_2flang_2fObject_3b_29Z rfl) rfl rfl rfl (W := 0) rfl (by decide) (by decide) (by decide) (by decide) (allS (om 0 rfl) (allS (om 1 rfl) all0)) rfl ?_
  intro T11 h11 v11 X11 K11 hQ11
  obtain ⟨rfl, f12, f13, f14, f15⟩ := hQ11
  show OGo _ _ _ _ T11 (mkF m 28 #[.val (.ref a), .val (.ref v), .val (.ref r), .val (.int 1)] [(.int 1)])
  refine og_pop X11 29 d10_28 rfl rfl ?_
  refine og_aloadN X11 30 d10_29 rfl rfl rfl ?_
  have f16 := q2.keep K1 nin0
  have f18 := q0.keep K1
  have f19 := f18.keep K11
  have f20 := f5.keep K11
  have f17 := f16.keep K11 (ninS (ne_exa f19 f20 (by decide)) (ninS (own_neA ((q0.keep K1).keep K11) (ow hw 16 rfl) f15) nin0))
  refine own_get X11 33 d10_30 (host := "") (Or.inl (ow hw 43 rfl)) Via.refl f17 rfl ?_
  intro T21 X22
  refine og_aloadN X22 34 d10_33 rfl rfl rfl ?_
  have f23 := q10.keep K1
  have f24 := f23.keep K11
  have f25 := q11.keep K1 nin0
  have f26 := f25.keep K11 (ninS (Ne.symm q21) (ninS (own_neA f24 (ow hw 25 rfl) f15) nin0))
  have f27 := q12.keep K1 nin0
  have f28 := f27.keep K11 (ninS (Ne.symm q21) (ninS (own_neA f24 (ow hw 25 rfl) f15) nin0))
  have f29 := q13.keep K1 nin0
  have f30 := f29.keep K11 (ninS (Ne.symm q21) (ninS (own_neA f24 (ow hw 25 rfl) f15) nin0))
  have f31 := q14.keep K1 nin0
  have f32 := f31.keep K11 (ninS (Ne.symm (own_neA f5 (ow hw 25 rfl) f31)) (ninS (Ne.symm q22) nin0))
  have f33 := q18.keep K1
  have f34 := f33.keep K11
  refine own_face X22 39 (a := d2) (argsL := [(.ref r)]) (rest := []) d10_34 f24 (rd_adk0 l Z a0 hw n0 h11 hWd [] X22.old d2 e2 ke2 r f24 f26 f28 f30 f32 q15 f34 (own_svb X22 (om 2 rfl)) (own_svb X22 (om 3 rfl))) (ow hw 92 rfl) (ow hw 93 rfl) (ow hw 94 rfl) (ow hw 95 rfl) (ow hw 96 rfl) (ow hw 97 rfl) (ow hw 98 rfl) (ow hw 99 rfl) (ow hw 26 rfl) (ow hw 100 rfl) (by decide) (lenOf pd__28Ljava_2flang_2fObject_3b_29Z rfl) rfl rfl rfl (W := 0) rfl (by decide) (by decide) (by decide) (by decide) (allS (om 2 rfl) (allS (om 3 rfl) all0)) rfl ?_
  intro T35 h35 v35 X35 K35 hQ35
  obtain ⟨rfl, f36, f37, f38, f39⟩ := hQ35
  show OGo _ _ _ _ T35 (mkF m 39 #[.val (.ref a), .val (.ref v), .val (.ref r), .val (.int 1)] [(.int 1)])
  refine og_pop X35 40 d10_39 rfl rfl ?_
  refine og_aloadN X35 41 d10_40 rfl rfl rfl ?_
  have f40 := q3.keep K1 nin0
  have f42 := f19.keep K35
  have f43 := f20.keep K35
  have f41 := f40.keep K11 (ninS (ne_exa f42 f43 (by decide)) (ninS (own_neA f19 (ow hw 16 rfl) f15) nin0))
  have f45 := f24.keep K35
  have f44 := f41.keep K35 (ninS (ne_exa f42 f45 (by decide)) (ninS (own_neA f42 (ow hw 16 rfl) f39) nin0))
  refine own_get X35 44 d10_41 (host := "") (Or.inl (ow hw 61 rfl)) Via.refl f44 rfl ?_
  intro T46 X47
  refine og_aloadN X47 45 d10_44 rfl rfl rfl ?_
  have f48 := f34.keep K35
  have f49 := q19.keep K1 nin0
  have f50 := f49.keep K11 (ninS (ne_exa f48 f43 (by decide)) (ninS (Nat.ne_of_lt (Nat.lt_of_lt_of_le q25 (own_svb X47 (om 1 rfl)).1)) nin0))
  have f51 := f50.keep K35 (ninS (ne_exa f48 f45 (by decide)) (ninS (Nat.ne_of_lt (Nat.lt_of_lt_of_le q25 (own_svb X47 (om 3 rfl)).1)) nin0))
  refine own_virtUp X47 48 rfl (a := r) (argsL := []) (rest := [(.ref w)]) d10_45 f48 (rm8 l Z a0 hw n0 h35 hWd [] X47.old r o f51 ) (ow hw 68 rfl) (ow hw 69 rfl) (ow hw 70 rfl) (ow hw 72 rfl) (ow hw 71 rfl) (ow hw 73 rfl) (ow hw 74 rfl) (by decide) (lenOf pd__28_29I rfl) rfl rfl rfl (W := 1) rfl (by decide) (by decide) (by decide) (by decide) all0 rfl ?_
  intro T52 h52 v52 X52 K52 hQ52
  obtain rfl := hQ52
  show OGo _ _ _ _ T52 (mkF m 48 #[.val (.ref a), .val (.ref v), .val (.ref r), .val (.int 1)] [(.int o), (.ref w)])
  rcases q26 with rfl | rfl | rfl
  · -- o is (0 : Int32)
    refine og_dup2 X52 49 d10_48 rfl rfl rfl ?_
    have f53 := q16.keep K1 nin0
    have f54 := f53.keep K11 (ninS (Ne.symm (own_neA f5 (ow hw 25 rfl) f53)) (ninS q23 nin0))
    have f55 := f54.keep K35 (ninS (Ne.symm (own_neA f24 (ow hw 25 rfl) f54)) (ninS q24 nin0))
    have f56 := f55.keep K52 nin0
    refine own_ldI X52 50 d10_49 f56 (by decide) (by decide) rfl rfl ?_
    refine og_iconst X52 51 (1 : Int32) d10_50 rfl rfl ?_
    refine og_iadd X52 52 d10_51 rfl ?_
    refine own_stI X52 53 d10_52 f56 (by decide) (by decide) (i := 0) (by decide) (Nat.le_of_ble_eq_true rfl) (om 4 rfl) rfl ?_
    intro T57 h57 X57 W57 K57 A57
    have f58 : Arv Z h57 w kw .int (3 : Int32) [(.int (x0 + (1 : Int32))), (.int x1), (.int x2)] (.int 0) := A57
    refine og_iloadN X57 54 d10_53 rfl rfl ?_
    have f59 := f12.keep K35 (ninS q21 (ninS (own_neA f43 (ow hw 25 rfl) f39) nin0))
    have f60 := f59.keep K52 nin0
    have f61 := f60.keep K57 (ninS (own_neA ((f43.keep K52).keep K57) (ow hw 25 rfl) f58) nin0)
    have f62 := f13.keep K35 (ninS q21 (ninS (own_neA f43 (ow hw 25 rfl) f39) nin0))
    have f63 := f62.keep K52 nin0
    have f64 := f63.keep K57 (ninS (own_neA ((f43.keep K52).keep K57) (ow hw 25 rfl) f58) nin0)
    have f65 := f14.keep K35 (ninS q21 (ninS (own_neA f43 (ow hw 25 rfl) f39) nin0))
    have f66 := f65.keep K52 nin0
    have f67 := f66.keep K57 (ninS (own_neA ((f43.keep K52).keep K57) (ow hw 25 rfl) f58) nin0)
    have f68 := f15.keep K35 (ninS (Ne.symm (own_neA f24 (ow hw 25 rfl) f15)) (ninS q22 nin0))
    have f69 := f68.keep K52 nin0
    have f70 := f69.keep K57 (ninS (Ne.symm q23) nin0)
    have f71 := f36.keep K52 nin0
    have f72 := f71.keep K57 (ninS (own_neA ((f45.keep K52).keep K57) (ow hw 25 rfl) f58) nin0)
    have f73 := f37.keep K52 nin0
    have f74 := f73.keep K57 (ninS (own_neA ((f45.keep K52).keep K57) (ow hw 25 rfl) f58) nin0)
    have f75 := f38.keep K52 nin0
    have f76 := f75.keep K57 (ninS (own_neA ((f45.keep K52).keep K57) (ow hw 25 rfl) f58) nin0)
    have f77 := f39.keep K52 nin0
    have f78 := f77.keep K57 (ninS (Ne.symm q24) nin0)
    refine own_retZ X57 d10_54 hret rfl (by decide) (by decide) ?_
    exact ⟨(x0 + (1 : Int32)), x1, x2, rfl, f61, f64, f67, f70, f72, f74, f76, f78, f58, (own_bda (own_bdm q28 (by decide)) (by decide)), (own_bdm q29 (by decide)), (own_bdm q30 (by decide))⟩
  · -- o is (1 : Int32)
    refine og_dup2 X52 49 d10_48 rfl rfl rfl ?_
    have f79 := q16.keep K1 nin0
    have f80 := f79.keep K11 (ninS (Ne.symm (own_neA f5 (ow hw 25 rfl) f79)) (ninS q23 nin0))
    have f81 := f80.keep K35 (ninS (Ne.symm (own_neA f24 (ow hw 25 rfl) f80)) (ninS q24 nin0))
    have f82 := f81.keep K52 nin0
    refine own_ldI X52 50 d10_49 f82 (by decide) (by decide) rfl rfl ?_
    refine og_iconst X52 51 (1 : Int32) d10_50 rfl rfl ?_
    refine og_iadd X52 52 d10_51 rfl ?_
    refine own_stI X52 53 d10_52 f82 (by decide) (by decide) (i := 1) (by decide) (Nat.le_of_ble_eq_true rfl) (om 4 rfl) rfl ?_
    intro T83 h83 X83 W83 K83 A83
    have f84 : Arv Z h83 w kw .int (3 : Int32) [(.int x0), (.int (x1 + (1 : Int32))), (.int x2)] (.int 0) := A83
    refine og_iloadN X83 54 d10_53 rfl rfl ?_
    have f85 := f12.keep K35 (ninS q21 (ninS (own_neA f43 (ow hw 25 rfl) f39) nin0))
    have f86 := f85.keep K52 nin0
    have f87 := f86.keep K83 (ninS (own_neA ((f43.keep K52).keep K83) (ow hw 25 rfl) f84) nin0)
    have f88 := f13.keep K35 (ninS q21 (ninS (own_neA f43 (ow hw 25 rfl) f39) nin0))
    have f89 := f88.keep K52 nin0
    have f90 := f89.keep K83 (ninS (own_neA ((f43.keep K52).keep K83) (ow hw 25 rfl) f84) nin0)
    have f91 := f14.keep K35 (ninS q21 (ninS (own_neA f43 (ow hw 25 rfl) f39) nin0))
    have f92 := f91.keep K52 nin0
    have f93 := f92.keep K83 (ninS (own_neA ((f43.keep K52).keep K83) (ow hw 25 rfl) f84) nin0)
    have f94 := f15.keep K35 (ninS (Ne.symm (own_neA f24 (ow hw 25 rfl) f15)) (ninS q22 nin0))
    have f95 := f94.keep K52 nin0
    have f96 := f95.keep K83 (ninS (Ne.symm q23) nin0)
    have f97 := f36.keep K52 nin0
    have f98 := f97.keep K83 (ninS (own_neA ((f45.keep K52).keep K83) (ow hw 25 rfl) f84) nin0)
    have f99 := f37.keep K52 nin0
    have f100 := f99.keep K83 (ninS (own_neA ((f45.keep K52).keep K83) (ow hw 25 rfl) f84) nin0)
    have f101 := f38.keep K52 nin0
    have f102 := f101.keep K83 (ninS (own_neA ((f45.keep K52).keep K83) (ow hw 25 rfl) f84) nin0)
    have f103 := f39.keep K52 nin0
    have f104 := f103.keep K83 (ninS (Ne.symm q24) nin0)
    refine own_retZ X83 d10_54 hret rfl (by decide) (by decide) ?_
    exact ⟨x0, (x1 + (1 : Int32)), x2, rfl, f87, f90, f93, f96, f98, f100, f102, f104, f84, (own_bdm q28 (by decide)), (own_bda (own_bdm q29 (by decide)) (by decide)), (own_bdm q30 (by decide))⟩
  · -- o is (2 : Int32)
    refine og_dup2 X52 49 d10_48 rfl rfl rfl ?_
    have f105 := q16.keep K1 nin0
    have f106 := f105.keep K11 (ninS (Ne.symm (own_neA f5 (ow hw 25 rfl) f105)) (ninS q23 nin0))
    have f107 := f106.keep K35 (ninS (Ne.symm (own_neA f24 (ow hw 25 rfl) f106)) (ninS q24 nin0))
    have f108 := f107.keep K52 nin0
    refine own_ldI X52 50 d10_49 f108 (by decide) (by decide) rfl rfl ?_
    refine og_iconst X52 51 (1 : Int32) d10_50 rfl rfl ?_
    refine og_iadd X52 52 d10_51 rfl ?_
    refine own_stI X52 53 d10_52 f108 (by decide) (by decide) (i := 2) (by decide) (Nat.le_of_ble_eq_true rfl) (om 4 rfl) rfl ?_
    intro T109 h109 X109 W109 K109 A109
    have f110 : Arv Z h109 w kw .int (3 : Int32) [(.int x0), (.int x1), (.int (x2 + (1 : Int32)))] (.int 0) := A109
    refine og_iloadN X109 54 d10_53 rfl rfl ?_
    have f111 := f12.keep K35 (ninS q21 (ninS (own_neA f43 (ow hw 25 rfl) f39) nin0))
    have f112 := f111.keep K52 nin0
    have f113 := f112.keep K109 (ninS (own_neA ((f43.keep K52).keep K109) (ow hw 25 rfl) f110) nin0)
    have f114 := f13.keep K35 (ninS q21 (ninS (own_neA f43 (ow hw 25 rfl) f39) nin0))
    have f115 := f114.keep K52 nin0
    have f116 := f115.keep K109 (ninS (own_neA ((f43.keep K52).keep K109) (ow hw 25 rfl) f110) nin0)
    have f117 := f14.keep K35 (ninS q21 (ninS (own_neA f43 (ow hw 25 rfl) f39) nin0))
    have f118 := f117.keep K52 nin0
    have f119 := f118.keep K109 (ninS (own_neA ((f43.keep K52).keep K109) (ow hw 25 rfl) f110) nin0)
    have f120 := f15.keep K35 (ninS (Ne.symm (own_neA f24 (ow hw 25 rfl) f15)) (ninS q22 nin0))
    have f121 := f120.keep K52 nin0
    have f122 := f121.keep K109 (ninS (Ne.symm q23) nin0)
    have f123 := f36.keep K52 nin0
    have f124 := f123.keep K109 (ninS (own_neA ((f45.keep K52).keep K109) (ow hw 25 rfl) f110) nin0)
    have f125 := f37.keep K52 nin0
    have f126 := f125.keep K109 (ninS (own_neA ((f45.keep K52).keep K109) (ow hw 25 rfl) f110) nin0)
    have f127 := f38.keep K52 nin0
    have f128 := f127.keep K109 (ninS (own_neA ((f45.keep K52).keep K109) (ow hw 25 rfl) f110) nin0)
    have f129 := f39.keep K52 nin0
    have f130 := f129.keep K109 (ninS (Ne.symm q24) nin0)
    refine own_retZ X109 d10_54 hret rfl (by decide) (by decide) ?_
    exact ⟨x0, x1, (x2 + (1 : Int32)), rfl, f113, f116, f119, f122, f124, f126, f128, f130, f110, (own_bdm q28 (by decide)), (own_bdm q29 (by decide)), (own_bda (own_bdm q30 (by decide)) (by decide))⟩
theorem rq_add1 (l : Launch) (Z : State) (a0 : Array Value) (hw : ∀ d ∈ tables_1, d.before a0 Z = true) (n0 : Nat) (h0 : Heap) (hWd : OWorld Z a0) (wc : List Jvm.Cond) (O0 : Old Z n0 h0) (a : Addr) (v : Addr) (r : Addr) (o : Int32) (mo : Int32) (d1 : Addr) (e1 : Addr) (ke1 : ClassId) (d2 : Addr) (e2 : Addr) (ke2 : ClassId) (w : Addr) (kw : ClassId) (x0 : Int32) (x1 : Int32) (x2 : Int32) (i0 : Addr) (k0 : Addr) (q0 : Exa Z h0 a "com/example/bote/bote/service/SendQueue") (q1 : Fld Z h0 a "com/example/bote/bote/service/SendQueue" "items" "Ljava/util/Deque;" (.ref d1)) (q2 : Fld Z h0 a "com/example/bote/bote/service/SendQueue" "kinds" "Ljava/util/Deque;" (.ref d2)) (q3 : Fld Z h0 a "com/example/bote/bote/service/SendQueue" "waiting" "[I" (.ref w)) (q4 : Exa Z h0 d1 "java/util/ArrayDeque") (q5 : Fld Z h0 d1 "java/util/ArrayDeque" "elements" "[Ljava/lang/Object;" (.ref e1)) (q6 : Fld Z h0 d1 "java/util/ArrayDeque" "head" "I" (.int 0)) (q7 : Fld Z h0 d1 "java/util/ArrayDeque" "tail" "I" (.int 1)) (q8 : Arv Z h0 e1 ke1 (.object "java/lang/Object") (17 : Int32) [(.ref i0), .null, .null, .null, .null, .null, .null, .null, .null, .null, .null, .null, .null, .null, .null, .null, .null] .null) (q9 : Ovr Z ke1 "java/lang/Object") (q10 : Exa Z h0 d2 "java/util/ArrayDeque") (q11 : Fld Z h0 d2 "java/util/ArrayDeque" "elements" "[Ljava/lang/Object;" (.ref e2)) (q12 : Fld Z h0 d2 "java/util/ArrayDeque" "head" "I" (.int 0)) (q13 : Fld Z h0 d2 "java/util/ArrayDeque" "tail" "I" (.int 1)) (q14 : Arv Z h0 e2 ke2 (.object "java/lang/Object") (17 : Int32) [(.ref k0), .null, .null, .null, .null, .null, .null, .null, .null, .null, .null, .null, .null, .null, .null, .null, .null] .null) (q15 : Ovr Z ke2 "java/lang/Object") (q16 : Arv Z h0 w kw .int (3 : Int32) [(.int x0), (.int x1), (.int x2)] (.int 0)) (q17 : Exa Z h0 v "java/lang/Integer") (q18 : Exa Z h0 r "com/example/bote/bote/service/SendQueue$Kind") (q19 : Fld Z h0 r "java/lang/Enum" "ordinal" "I" (.int o)) (q20 : Fld Z h0 r "com/example/bote/bote/service/SendQueue$Kind" "most" "I" (.int mo)) (q21 : d1 ≠ d2) (q22 : e1 ≠ e2) (q23 : w ≠ e1) (q24 : w ≠ e2) (q25 : r < n0) (q26 : o = 0 ∨ o = 1 ∨ o = 2) (q27 : ¬ mo < (100 : Int32)) (q28 : own_bd 1 x0) (q29 : own_bd 1 x1) (q30 : own_bd 1 x2) (g0 : n0 ≤ d1 ∧ d1 < h0.size) (g1 : n0 ≤ e1 ∧ e1 < h0.size) (g2 : n0 ≤ d2 ∧ d2 < h0.size) (g3 : n0 ≤ e2 ∧ e2 < h0.size) (g4 : n0 ≤ w ∧ w < h0.size) :
    OMet l Z own_EL n0 (⟨"com/example/bote/bote/service/SendQueue", "add", "(Ljava/lang/Object;Lcom/example/bote/bote/service/SendQueue$Kind;)Z"⟩ : MethodName) (Jvm.Cond.code (⟨"com/example/bote/bote/service/SendQueue", "add", "(Ljava/lang/Object;Lcom/example/bote/bote/service/SendQueue$Kind;)Z"⟩ : MethodName) prog_25_method_2_code 4 (some .boolean) :: wc) ({ frames := 3, cells := 0, slots := 0, locals := 42 } : Room) #[(.ref a), (.ref v), (.ref r)] h0 [d1, e1, d2, e2, w] (fun vq hq => ∃ (y0 : Int32) (y1 : Int32) (y2 : Int32), vq = some (.int 1) ∧ Fld Z hq d1 "java/util/ArrayDeque" "elements" "[Ljava/lang/Object;" (.ref e1) ∧ Fld Z hq d1 "java/util/ArrayDeque" "head" "I" (.int 0) ∧ Fld Z hq d1 "java/util/ArrayDeque" "tail" "I" (.int 2) ∧ Arv Z hq e1 ke1 (.object "java/lang/Object") (17 : Int32) [(.ref i0), (.ref v), .null, .null, .null, .null, .null, .null, .null, .null, .null, .null, .null, .null, .null, .null, .null] .null ∧ Fld Z hq d2 "java/util/ArrayDeque" "elements" "[Ljava/lang/Object;" (.ref e2) ∧ Fld Z hq d2 "java/util/ArrayDeque" "head" "I" (.int 0) ∧ Fld Z hq d2 "java/util/ArrayDeque" "tail" "I" (.int 2) ∧ Arv Z hq e2 ke2 (.object "java/lang/Object") (17 : Int32) [(.ref k0), (.ref r), .null, .null, .null, .null, .null, .null, .null, .null, .null, .null, .null, .null, .null, .null, .null] .null ∧ Arv Z hq w kw .int (3 : Int32) [(.int y0), (.int y1), (.int y2)] (.int 0) ∧ own_bd 2 y0 ∧ own_bd 2 y1 ∧ own_bd 2 y2) := by
  refine own_enter #[.val (.ref a), .val (.ref v), .val (.ref r), .unset] pn_com_example_bote_bote_service_SendQueue_add__Ljava_lang_Object_Lcom_example_bote_bote_service_SendQueue_Kind__Z (ef_rq_add1 a v r o mo d1 e1 ke1 d2 e2 ke2 w kw x0 x1 x2 i0 k0) hWd.1 O0 (allS g0 (allS g1 (allS g2 (allS g3 (allS g4 all0))))) ?_
  intro p e s m below meth c T0 X0 hnm hret
  refine og_aloadN X0 1 d10_0 rfl rfl rfl ?_
  refine og_aloadN X0 2 d10_1 rfl rfl rfl ?_
  refine own_virt X0 5 (a := a) (argsL := [(.ref r)]) (rest := []) d10_2 q0 (fun _ hZ => notFace_of_selects (args := #[]) (mvT hZ (ow hw 66 rfl))) (rm7 l Z a0 hw n0 h0 hWd [] X0.old a r o mo w kw x0 x1 x2 q3 q18 q19 q20 q16 q26 q27 (own_bdm q28 (by decide)) (own_bdm q29 (by decide)) (own_bdm q30 (by decide)) ) (ow hw 91 rfl) (ow hw 64 rfl) (ow hw 66 rfl) (ow hw 65 rfl) (ow hw 17 rfl) (ow hw 67 rfl) (by decide) (lenOf pd__28Lcom_2fexample_2fbote_2fbote_2fservice_2fSendQueue_24Kind_3b_29Z rfl) rfl rfl rfl (W := 0) rfl (by decide) (by decide) (by decide) (by decide) all0 rfl ?_
  intro T1 h1 v1 X1 K1 hQ1
  obtain rfl := hQ1
  show OGo _ _ _ _ T1 (mkF m 5 #[.val (.ref a), .val (.ref v), .val (.ref r), .unset] [(.int 0)])
  refine og_ifN X1 8 d10_5 (XT.i0_ne_f (by decide)) rfl ?_
  refine og_iconst X1 9 (1 : Int32) d10_8 rfl rfl ?_
  refine og_goto X1 13 d10_9 (by decide) (by decide) ?_
  refine og_istoreN X1 14 #[.val (.ref a), .val (.ref v), .val (.ref r), .val (.int 1)] d10_13 rfl rfl ?_
  refine og_iloadN X1 15 d10_14 rfl rfl ?_
  refine og_ifN X1 18 d10_15 (XT.i0_eq_f (by decide)) rfl ?_
  refine og_aloadN X1 19 d10_18 rfl rfl rfl ?_
  have f2 := q1.keep K1 nin0
  refine own_get X1 22 d10_19 (host := "") (Or.inl (ow hw 41 rfl)) Via.refl f2 rfl ?_
  intro T3 X4
  refine og_aloadN X4 23 d10_22 rfl rfl rfl ?_
  have f5 := q4.keep K1
  have f6 := q5.keep K1 nin0
  have f7 := q6.keep K1 nin0
  have f8 := q7.keep K1 nin0
  have f9 := q8.keep K1 nin0
  have f10 := q17.keep K1
  refine own_face X4 28 (a := d1) (argsL := [(.ref v)]) (rest := []) d10_23 f5 (rd_adi1 l Z a0 hw n0 h1 hWd [] X4.old d1 e1 ke1 v i0 f5 f6 f7 f8 f9 q9 f10 (own_svb X4 (om 0 rfl)) (own_svb X4 (om 1 rfl))) (ow hw 92 rfl) (ow hw 93 rfl) (ow hw 94 rfl) (ow hw 95 rfl) (ow hw 96 rfl) (ow hw 97 rfl) (ow hw 98 rfl) (ow hw 99 rfl) (ow hw 26 rfl) (ow hw 100 rfl) (by decide) (lenOf pd__28Ljava_2flang_2fObject_3b_29Z rfl) rfl rfl rfl (W := 0) rfl (by decide) (by decide) (by decide) (by decide) (allS (om 0 rfl) (allS (om 1 rfl) all0)) rfl ?_
  intro T11 h11 v11 X11 K11 hQ11
  obtain ⟨rfl, f12, f13, f14, f15⟩ := hQ11
  show OGo _ _ _ _ T11 (mkF m 28 #[.val (.ref a), .val (.ref v), .val (.ref r), .val (.int 1)] [(.int 1)])
  refine og_pop X11 29 d10_28 rfl rfl ?_
  refine og_aloadN X11 30 d10_29 rfl rfl rfl ?_
  have f16 := q2.keep K1 nin0
  have f18 := q0.keep K1
  have f19 := f18.keep K11
  have f20 := f5.keep K11
  have f17 := f16.keep K11 (ninS (ne_exa f19 f20 (by decide)) (ninS (own_neA ((q0.keep K1).keep K11) (ow hw 16 rfl) f15) nin0))
  refine own_get X11 33 d10_30 (host := "") (Or.inl (ow hw 43 rfl)) Via.refl f17 rfl ?_
  intro T21 X22
  refine og_aloadN X22 34 d10_33 rfl rfl rfl ?_
  have f23 := q10.keep K1
  have f24 := f23.keep K11
  have f25 := q11.keep K1 nin0
  have f26 := f25.keep K11 (ninS (Ne.symm q21) (ninS (own_neA f24 (ow hw 25 rfl) f15) nin0))
  have f27 := q12.keep K1 nin0
  have f28 := f27.keep K11 (ninS (Ne.symm q21) (ninS (own_neA f24 (ow hw 25 rfl) f15) nin0))
  have f29 := q13.keep K1 nin0
  have f30 := f29.keep K11 (ninS (Ne.symm q21) (ninS (own_neA f24 (ow hw 25 rfl) f15) nin0))
  have f31 := q14.keep K1 nin0
  have f32 := f31.keep K11 (ninS (Ne.symm (own_neA f5 (ow hw 25 rfl) f31)) (ninS (Ne.symm q22) nin0))
  have f33 := q18.keep K1
  have f34 := f33.keep K11
  refine own_face X22 39 (a := d2) (argsL := [(.ref r)]) (rest := []) d10_34 f24 (rd_adk1 l Z a0 hw n0 h11 hWd [] X22.old d2 e2 ke2 r k0 f24 f26 f28 f30 f32 q15 f34 (own_svb X22 (om 2 rfl)) (own_svb X22 (om 3 rfl))) (ow hw 92 rfl) (ow hw 93 rfl) (ow hw 94 rfl) (ow hw 95 rfl) (ow hw 96 rfl) (ow hw 97 rfl) (ow hw 98 rfl) (ow hw 99 rfl) (ow hw 26 rfl) (ow hw 100 rfl) (by decide) (lenOf pd__28Ljava_2flang_2fObject_3b_29Z rfl) rfl rfl rfl (W := 0) rfl (by decide) (by decide) (by decide) (by decide) (allS (om 2 rfl) (allS (om 3 rfl) all0)) rfl ?_
  intro T35 h35 v35 X35 K35 hQ35
  obtain ⟨rfl, f36, f37, f38, f39⟩ := hQ35
  show OGo _ _ _ _ T35 (mkF m 39 #[.val (.ref a), .val (.ref v), .val (.ref r), .val (.int 1)] [(.int 1)])
  refine og_pop X35 40 d10_39 rfl rfl ?_
  refine og_aloadN X35 41 d10_40 rfl rfl rfl ?_
  have f40 := q3.keep K1 nin0
  have f42 := f19.keep K35
  have f43 := f20.keep K35
  have f41 := f40.keep K11 (ninS (ne_exa f42 f43 (by decide)) (ninS (own_neA f19 (ow hw 16 rfl) f15) nin0))
  have f45 := f24.keep K35
  have f44 := f41.keep K35 (ninS (ne_exa f42 f45 (by decide)) (ninS (own_neA f42 (ow hw 16 rfl) f39) nin0))
  refine own_get X35 44 d10_41 (host := "") (Or.inl (ow hw 61 rfl)) Via.refl f44 rfl ?_
  intro T46 X47
  refine og_aloadN X47 45 d10_44 rfl rfl rfl ?_
  have f48 := f34.keep K35
  have f49 := q19.keep K1 nin0
  have f50 := f49.keep K11 (ninS (ne_exa f48 f43 (by decide)) (ninS (Nat.ne_of_lt (Nat.lt_of_lt_of_le q25 (own_svb X47 (om 1 rfl)).1)) nin0))
  have f51 := f50.keep K35 (ninS (ne_exa f48 f45 (by decide)) (ninS (Nat.ne_of_lt (Nat.lt_of_lt_of_le q25 (own_svb X47 (om 3 rfl)).1)) nin0))
  refine own_virtUp X47 48 rfl (a := r) (argsL := []) (rest := [(.ref w)]) d10_45 f48 (rm8 l Z a0 hw n0 h35 hWd [] X47.old r o f51 ) (ow hw 68 rfl) (ow hw 69 rfl) (ow hw 70 rfl) (ow hw 72 rfl) (ow hw 71 rfl) (ow hw 73 rfl) (ow hw 74 rfl) (by decide) (lenOf pd__28_29I rfl) rfl rfl rfl (W := 1) rfl (by decide) (by decide) (by decide) (by decide) all0 rfl ?_
  intro T52 h52 v52 X52 K52 hQ52
  obtain rfl := hQ52
  show OGo _ _ _ _ T52 (mkF m 48 #[.val (.ref a), .val (.ref v), .val (.ref r), .val (.int 1)] [(.int o), (.ref w)])
  rcases q26 with rfl | rfl | rfl
  · -- o is (0 : Int32)
    refine og_dup2 X52 49 d10_48 rfl rfl rfl ?_
    have f53 := q16.keep K1 nin0
    have f54 := f53.keep K11 (ninS (Ne.symm (own_neA f5 (ow hw 25 rfl) f53)) (ninS q23 nin0))
    have f55 := f54.keep K35 (ninS (Ne.symm (own_neA f24 (ow hw 25 rfl) f54)) (ninS q24 nin0))
    have f56 := f55.keep K52 nin0
    refine own_ldI X52 50 d10_49 f56 (by decide) (by decide) rfl rfl ?_
    refine og_iconst X52 51 (1 : Int32) d10_50 rfl rfl ?_
    refine og_iadd X52 52 d10_51 rfl ?_
    refine own_stI X52 53 d10_52 f56 (by decide) (by decide) (i := 0) (by decide) (Nat.le_of_ble_eq_true rfl) (om 4 rfl) rfl ?_
    intro T57 h57 X57 W57 K57 A57
    have f58 : Arv Z h57 w kw .int (3 : Int32) [(.int (x0 + (1 : Int32))), (.int x1), (.int x2)] (.int 0) := A57
    refine og_iloadN X57 54 d10_53 rfl rfl ?_
    have f59 := f12.keep K35 (ninS q21 (ninS (own_neA f43 (ow hw 25 rfl) f39) nin0))
    have f60 := f59.keep K52 nin0
    have f61 := f60.keep K57 (ninS (own_neA ((f43.keep K52).keep K57) (ow hw 25 rfl) f58) nin0)
    have f62 := f13.keep K35 (ninS q21 (ninS (own_neA f43 (ow hw 25 rfl) f39) nin0))
    have f63 := f62.keep K52 nin0
    have f64 := f63.keep K57 (ninS (own_neA ((f43.keep K52).keep K57) (ow hw 25 rfl) f58) nin0)
    have f65 := f14.keep K35 (ninS q21 (ninS (own_neA f43 (ow hw 25 rfl) f39) nin0))
    have f66 := f65.keep K52 nin0
    have f67 := f66.keep K57 (ninS (own_neA ((f43.keep K52).keep K57) (ow hw 25 rfl) f58) nin0)
    have f68 := f15.keep K35 (ninS (Ne.symm (own_neA f24 (ow hw 25 rfl) f15)) (ninS q22 nin0))
    have f69 := f68.keep K52 nin0
    have f70 := f69.keep K57 (ninS (Ne.symm q23) nin0)
    have f71 := f36.keep K52 nin0
    have f72 := f71.keep K57 (ninS (own_neA ((f45.keep K52).keep K57) (ow hw 25 rfl) f58) nin0)
    have f73 := f37.keep K52 nin0
    have f74 := f73.keep K57 (ninS (own_neA ((f45.keep K52).keep K57) (ow hw 25 rfl) f58) nin0)
    have f75 := f38.keep K52 nin0
    have f76 := f75.keep K57 (ninS (own_neA ((f45.keep K52).keep K57) (ow hw 25 rfl) f58) nin0)
    have f77 := f39.keep K52 nin0
    have f78 := f77.keep K57 (ninS (Ne.symm q24) nin0)
    refine own_retZ X57 d10_54 hret rfl (by decide) (by decide) ?_
    exact ⟨(x0 + (1 : Int32)), x1, x2, rfl, f61, f64, f67, f70, f72, f74, f76, f78, f58, (own_bda (own_bdm q28 (by decide)) (by decide)), (own_bdm q29 (by decide)), (own_bdm q30 (by decide))⟩
  · -- o is (1 : Int32)
    refine og_dup2 X52 49 d10_48 rfl rfl rfl ?_
    have f79 := q16.keep K1 nin0
    have f80 := f79.keep K11 (ninS (Ne.symm (own_neA f5 (ow hw 25 rfl) f79)) (ninS q23 nin0))
    have f81 := f80.keep K35 (ninS (Ne.symm (own_neA f24 (ow hw 25 rfl) f80)) (ninS q24 nin0))
    have f82 := f81.keep K52 nin0
    refine own_ldI X52 50 d10_49 f82 (by decide) (by decide) rfl rfl ?_
    refine og_iconst X52 51 (1 : Int32) d10_50 rfl rfl ?_
    refine og_iadd X52 52 d10_51 rfl ?_
    refine own_stI X52 53 d10_52 f82 (by decide) (by decide) (i := 1) (by decide) (Nat.le_of_ble_eq_true rfl) (om 4 rfl) rfl ?_
    intro T83 h83 X83 W83 K83 A83
    have f84 : Arv Z h83 w kw .int (3 : Int32) [(.int x0), (.int (x1 + (1 : Int32))), (.int x2)] (.int 0) := A83
    refine og_iloadN X83 54 d10_53 rfl rfl ?_
    have f85 := f12.keep K35 (ninS q21 (ninS (own_neA f43 (ow hw 25 rfl) f39) nin0))
    have f86 := f85.keep K52 nin0
    have f87 := f86.keep K83 (ninS (own_neA ((f43.keep K52).keep K83) (ow hw 25 rfl) f84) nin0)
    have f88 := f13.keep K35 (ninS q21 (ninS (own_neA f43 (ow hw 25 rfl) f39) nin0))
    have f89 := f88.keep K52 nin0
    have f90 := f89.keep K83 (ninS (own_neA ((f43.keep K52).keep K83) (ow hw 25 rfl) f84) nin0)
    have f91 := f14.keep K35 (ninS q21 (ninS (own_neA f43 (ow hw 25 rfl) f39) nin0))
    have f92 := f91.keep K52 nin0
    have f93 := f92.keep K83 (ninS (own_neA ((f43.keep K52).keep K83) (ow hw 25 rfl) f84) nin0)
    have f94 := f15.keep K35 (ninS (Ne.symm (own_neA f24 (ow hw 25 rfl) f15)) (ninS q22 nin0))
    have f95 := f94.keep K52 nin0
    have f96 := f95.keep K83 (ninS (Ne.symm q23) nin0)
    have f97 := f36.keep K52 nin0
    have f98 := f97.keep K83 (ninS (own_neA ((f45.keep K52).keep K83) (ow hw 25 rfl) f84) nin0)
    have f99 := f37.keep K52 nin0
    have f100 := f99.keep K83 (ninS (own_neA ((f45.keep K52).keep K83) (ow hw 25 rfl) f84) nin0)
    have f101 := f38.keep K52 nin0
    have f102 := f101.keep K83 (ninS (own_neA ((f45.keep K52).keep K83) (ow hw 25 rfl) f84) nin0)
    have f103 := f39.keep K52 nin0
    have f104 := f103.keep K83 (ninS (Ne.symm q24) nin0)
    refine own_retZ X83 d10_54 hret rfl (by decide) (by decide) ?_
    exact ⟨x0, (x1 + (1 : Int32)), x2, rfl, f87, f90, f93, f96, f98, f100, f102, f104, f84, (own_bdm q28 (by decide)), (own_bda (own_bdm q29 (by decide)) (by decide)), (own_bdm q30 (by decide))⟩
  · -- o is (2 : Int32)
    refine og_dup2 X52 49 d10_48 rfl rfl rfl ?_
    have f105 := q16.keep K1 nin0
    have f106 := f105.keep K11 (ninS (Ne.symm (own_neA f5 (ow hw 25 rfl) f105)) (ninS q23 nin0))
    have f107 := f106.keep K35 (ninS (Ne.symm (own_neA f24 (ow hw 25 rfl) f106)) (ninS q24 nin0))
    have f108 := f107.keep K52 nin0
    refine own_ldI X52 50 d10_49 f108 (by decide) (by decide) rfl rfl ?_
    refine og_iconst X52 51 (1 : Int32) d10_50 rfl rfl ?_
    refine og_iadd X52 52 d10_51 rfl ?_
    refine own_stI X52 53 d10_52 f108 (by decide) (by decide) (i := 2) (by decide) (Nat.le_of_ble_eq_true rfl) (om 4 rfl) rfl ?_
    intro T109 h109 X109 W109 K109 A109
    have f110 : Arv Z h109 w kw .int (3 : Int32) [(.int x0), (.int x1), (.int (x2 + (1 : Int32)))] (.int 0) := A109
    refine og_iloadN X109 54 d10_53 rfl rfl ?_
    have f111 := f12.keep K35 (ninS q21 (ninS (own_neA f43 (ow hw 25 rfl) f39) nin0))
    have f112 := f111.keep K52 nin0
    have f113 := f112.keep K109 (ninS (own_neA ((f43.keep K52).keep K109) (ow hw 25 rfl) f110) nin0)
    have f114 := f13.keep K35 (ninS q21 (ninS (own_neA f43 (ow hw 25 rfl) f39) nin0))
    have f115 := f114.keep K52 nin0
    have f116 := f115.keep K109 (ninS (own_neA ((f43.keep K52).keep K109) (ow hw 25 rfl) f110) nin0)
    have f117 := f14.keep K35 (ninS q21 (ninS (own_neA f43 (ow hw 25 rfl) f39) nin0))
    have f118 := f117.keep K52 nin0
    have f119 := f118.keep K109 (ninS (own_neA ((f43.keep K52).keep K109) (ow hw 25 rfl) f110) nin0)
    have f120 := f15.keep K35 (ninS (Ne.symm (own_neA f24 (ow hw 25 rfl) f15)) (ninS q22 nin0))
    have f121 := f120.keep K52 nin0
    have f122 := f121.keep K109 (ninS (Ne.symm q23) nin0)
    have f123 := f36.keep K52 nin0
    have f124 := f123.keep K109 (ninS (own_neA ((f45.keep K52).keep K109) (ow hw 25 rfl) f110) nin0)
    have f125 := f37.keep K52 nin0
    have f126 := f125.keep K109 (ninS (own_neA ((f45.keep K52).keep K109) (ow hw 25 rfl) f110) nin0)
    have f127 := f38.keep K52 nin0
    have f128 := f127.keep K109 (ninS (own_neA ((f45.keep K52).keep K109) (ow hw 25 rfl) f110) nin0)
    have f129 := f39.keep K52 nin0
    have f130 := f129.keep K109 (ninS (Ne.symm q24) nin0)
    refine own_retZ X109 d10_54 hret rfl (by decide) (by decide) ?_
    exact ⟨x0, x1, (x2 + (1 : Int32)), rfl, f113, f116, f119, f122, f124, f126, f128, f130, f110, (own_bdm q28 (by decide)), (own_bdm q29 (by decide)), (own_bda (own_bdm q30 (by decide)) (by decide))⟩
theorem rm14 (l : Launch) (Z : State) (a0 : Array Value) (hw : ∀ d ∈ tables_1, d.before a0 Z = true) (n0 : Nat) (h0 : Heap) (hWd : OWorld Z a0) (wc : List Jvm.Cond) (O0 : Old Z n0 h0) (a : Addr) (r : Addr) (o : Int32) (d1 : Addr) (e1 : Addr) (ke1 : ClassId) (d2 : Addr) (e2 : Addr) (ke2 : ClassId) (w : Addr) (kw : ClassId) (x0 : Int32) (x1 : Int32) (x2 : Int32) (i0 : Addr) (i1 : Addr) (k1 : Addr) (q0 : Exa Z h0 a "com/example/bote/bote/service/SendQueue") (q1 : Fld Z h0 a "com/example/bote/bote/service/SendQueue" "items" "Ljava/util/Deque;" (.ref d1)) (q2 : Fld Z h0 a "com/example/bote/bote/service/SendQueue" "kinds" "Ljava/util/Deque;" (.ref d2)) (q3 : Fld Z h0 a "com/example/bote/bote/service/SendQueue" "waiting" "[I" (.ref w)) (q4 : Exa Z h0 d1 "java/util/ArrayDeque") (q5 : Fld Z h0 d1 "java/util/ArrayDeque" "elements" "[Ljava/lang/Object;" (.ref e1)) (q6 : Fld Z h0 d1 "java/util/ArrayDeque" "head" "I" (.int 0)) (q7 : Fld Z h0 d1 "java/util/ArrayDeque" "tail" "I" (.int 2)) (q8 : Arv Z h0 e1 ke1 (.object "java/lang/Object") (17 : Int32) [(.ref i0), (.ref i1), .null, .null, .null, .null, .null, .null, .null, .null, .null, .null, .null, .null, .null, .null, .null] .null) (q9 : Ovr Z ke1 "java/lang/Object") (q10 : Exa Z h0 d2 "java/util/ArrayDeque") (q11 : Fld Z h0 d2 "java/util/ArrayDeque" "elements" "[Ljava/lang/Object;" (.ref e2)) (q12 : Fld Z h0 d2 "java/util/ArrayDeque" "head" "I" (.int 0)) (q13 : Fld Z h0 d2 "java/util/ArrayDeque" "tail" "I" (.int 2)) (q14 : Arv Z h0 e2 ke2 (.object "java/lang/Object") (17 : Int32) [(.ref r), (.ref k1), .null, .null, .null, .null, .null, .null, .null, .null, .null, .null, .null, .null, .null, .null, .null] .null) (q15 : Ovr Z ke2 "java/lang/Object") (q16 : Arv Z h0 w kw .int (3 : Int32) [(.int x0), (.int x1), (.int x2)] (.int 0)) (q17 : Exa Z h0 r "com/example/bote/bote/service/SendQueue$Kind") (q18 : Fld Z h0 r "java/lang/Enum" "ordinal" "I" (.int o)) (q19 : d1 ≠ d2) (q20 : e1 ≠ e2) (q21 : w ≠ e1) (q22 : w ≠ e2) (q23 : r < n0) (q24 : o = 0 ∨ o = 1 ∨ o = 2) (q25 : own_bd 2 x0) (q26 : own_bd 2 x1) (q27 : own_bd 2 x2) (g0 : n0 ≤ d1 ∧ d1 < h0.size) (g1 : n0 ≤ e1 ∧ e1 < h0.size) (g2 : n0 ≤ d2 ∧ d2 < h0.size) (g3 : n0 ≤ e2 ∧ e2 < h0.size) (g4 : n0 ≤ w ∧ w < h0.size) :
    OMet l Z own_EL n0 (⟨"com/example/bote/bote/service/SendQueue", "poll", "()Ljava/lang/Object;"⟩ : MethodName) (Jvm.Cond.code (⟨"com/example/bote/bote/service/SendQueue", "poll", "()Ljava/lang/Object;"⟩ : MethodName) prog_25_method_5_code 2 (some (.object "java/lang/Object")) :: wc) ({ frames := 4, cells := 0, slots := 0, locals := 55 } : Room) #[(.ref a)] h0 [d1, e1, d2, e2, w] (fun vq hq => ∃ (y0 : Int32) (y1 : Int32) (y2 : Int32), vq = some (.ref i0) ∧ Arv Z hq w kw .int (3 : Int32) [(.int y0), (.int y1), (.int y2)] (.int 0) ∧ own_bd 3 y0 ∧ own_bd 3 y1 ∧ own_bd 3 y2) := by
  refine own_enter #[.val (.ref a), .unset] pn_com_example_bote_bote_service_SendQueue_poll___Ljava_lang_Object_ (ef_rm14 a r o d1 e1 ke1 d2 e2 ke2 w kw x0 x1 x2 i0 i1 k1) hWd.1 O0 (allS g0 (allS g1 (allS g2 (allS g3 (allS g4 all0))))) ?_
  intro p e s m below meth c T0 X0 hnm hret
  refine og_aloadN X0 1 d14_0 rfl rfl rfl ?_
  refine own_get X0 4 d14_1 (host := "") (Or.inl (ow hw 41 rfl)) Via.refl q1 rfl ?_
  intro T1 X2
  refine own_face X2 9 (a := d1) (argsL := []) (rest := []) d14_4 q4 (rd_po l Z a0 hw n0 h0 hWd [] X2.old d1 e1 ke1 i0 i1 q4 q5 q6 q7 q8 q9 (own_svb X2 (om 0 rfl)) (own_svb X2 (om 1 rfl))) (ow hw 120 rfl) (ow hw 121 rfl) (ow hw 122 rfl) (ow hw 123 rfl) (ow hw 124 rfl) (ow hw 125 rfl) (ow hw 126 rfl) (ow hw 99 rfl) (ow hw 26 rfl) (ow hw 127 rfl) (by decide) (lenOf pd__28_29Ljava_2flang_2fObject_3b rfl) rfl rfl rfl (W := 0) rfl (by decide) (by decide) (by decide) (by decide) (allS (om 0 rfl) (allS (om 1 rfl) all0)) rfl ?_
  intro T3 h3 v3 X3 K3 hQ3
  obtain ⟨rfl, f4⟩ := hQ3
  show OGo _ _ _ _ T3 (mkF m 9 #[.val (.ref a), .unset] [(.ref i0)])
  refine og_astoreN X3 10 #[.val (.ref a), .val (.ref i0)] d14_9 rfl rfl rfl ?_
  refine og_aloadN X3 11 d14_10 rfl rfl rfl ?_
  refine og_nullN X3 14 d14_11 rfl ?_
  refine og_aloadN X3 15 d14_14 rfl rfl rfl ?_
  have f6 := q0.keep K3
  have f7 := q4.keep K3
  have f5 := q3.keep K3 (ninS (ne_exa f6 f7 (by decide)) (ninS (own_neA (q0.keep K3) (ow hw 16 rfl) f4) nin0))
  refine own_get X3 18 d14_15 (host := "") (Or.inl (ow hw 61 rfl)) Via.refl f5 rfl ?_
  intro T8 X9
  refine og_aloadN X9 19 d14_18 rfl rfl rfl ?_
  have f10 := q2.keep K3 (ninS (ne_exa f6 f7 (by decide)) (ninS (own_neA f6 (ow hw 16 rfl) f4) nin0))
  refine own_get X9 22 d14_19 (host := "") (Or.inl (ow hw 43 rfl)) Via.refl f10 rfl ?_
  intro T11 X12
  have f13 := q10.keep K3
  have f14 := q11.keep K3 (ninS (Ne.symm q19) (ninS (own_neA f13 (ow hw 25 rfl) f4) nin0))
  have f15 := q12.keep K3 (ninS (Ne.symm q19) (ninS (own_neA f13 (ow hw 25 rfl) f4) nin0))
  have f16 := q13.keep K3 (ninS (Ne.symm q19) (ninS (own_neA f13 (ow hw 25 rfl) f4) nin0))
  have f17 := q14.keep K3 (ninS (Ne.symm (own_neA q4 (ow hw 25 rfl) q14)) (ninS (Ne.symm q20) nin0))
  refine own_face X12 27 (a := d2) (argsL := []) (rest := [(.ref w)]) d14_22 f13 (rd_re l Z a0 hw n0 h3 hWd [] X12.old d2 e2 ke2 r k1 f13 f14 f15 f16 f17 q15 (own_svb X12 (om 2 rfl)) (own_svb X12 (om 3 rfl))) (ow hw 136 rfl) (ow hw 137 rfl) (ow hw 138 rfl) (ow hw 139 rfl) (ow hw 140 rfl) (ow hw 141 rfl) (ow hw 142 rfl) (ow hw 99 rfl) (ow hw 26 rfl) (ow hw 143 rfl) (by decide) (lenOf pd__28_29Ljava_2flang_2fObject_3b rfl) rfl rfl rfl (W := 1) rfl (by decide) (by decide) (by decide) (by decide) (allS (om 2 rfl) (allS (om 3 rfl) all0)) rfl ?_
  intro T18 h18 v18 X18 K18 hQ18
  obtain ⟨rfl, f19⟩ := hQ18
  show OGo _ _ _ _ T18 (mkF m 27 #[.val (.ref a), .val (.ref i0)] [(.ref r), (.ref w)])
  have f20 := q17.keep K3
  have f21 := f20.keep K18
  refine own_cast X18 30 d14_27 (ow hw 149 rfl) (Ins.self f21) rfl ?_
  intro T22 X23
  have f25 := f7.keep K18
  have f24 := q18.keep K3 (ninS (ne_exa f21 f25 (by decide)) (ninS (Nat.ne_of_lt (Nat.lt_of_lt_of_le q23 (own_svb X23 (om 1 rfl)).1)) nin0))
  have f27 := f13.keep K18
  have f26 := f24.keep K18 (ninS (ne_exa f21 f27 (by decide)) (ninS (Nat.ne_of_lt (Nat.lt_of_lt_of_le q23 (own_svb X23 (om 3 rfl)).1)) nin0))
  refine own_virtUp X23 33 rfl (a := r) (argsL := []) (rest := [(.ref w)]) d14_30 f21 (rm8 l Z a0 hw n0 h18 hWd [] X23.old r o f26 ) (ow hw 68 rfl) (ow hw 69 rfl) (ow hw 70 rfl) (ow hw 72 rfl) (ow hw 71 rfl) (ow hw 73 rfl) (ow hw 74 rfl) (by decide) (lenOf pd__28_29I rfl) rfl rfl rfl (W := 1) rfl (by decide) (by decide) (by decide) (by decide) all0 rfl ?_
  intro T28 h28 v28 X28 K28 hQ28
  obtain rfl := hQ28
  show OGo _ _ _ _ T28 (mkF m 33 #[.val (.ref a), .val (.ref i0)] [(.int o), (.ref w)])
  rcases q24 with rfl | rfl | rfl
  · -- o is (0 : Int32)
    refine og_dup2 X28 34 d14_33 rfl rfl rfl ?_
    have f29 := q16.keep K3 (ninS (Ne.symm (own_neA q4 (ow hw 25 rfl) q16)) (ninS q21 nin0))
    have f30 := f29.keep K18 (ninS (Ne.symm (own_neA f13 (ow hw 25 rfl) f29)) (ninS q22 nin0))
    have f31 := f30.keep K28 nin0
    refine own_ldI X28 35 d14_34 f31 (by decide) (by decide) rfl rfl ?_
    refine og_iconst X28 36 (1 : Int32) d14_35 rfl rfl ?_
    refine og_isub X28 37 d14_36 rfl ?_
    refine own_stI X28 38 d14_37 f31 (by decide) (by decide) (i := 0) (by decide) (Nat.le_of_ble_eq_true rfl) (om 4 rfl) rfl ?_
    intro T32 h32 X32 W32 K32 A32
    have f33 : Arv Z h32 w kw .int (3 : Int32) [(.int (x0 - (1 : Int32))), (.int x1), (.int x2)] (.int 0) := A32
    refine og_aloadN X32 39 d14_38 rfl rfl rfl ?_
    refine own_retA X32 d14_39 hret rfl rfl (by decide) (by decide) ?_
    exact ⟨(x0 - (1 : Int32)), x1, x2, rfl, f33, (own_bds (own_bdm q25 (by decide)) (by decide)), (own_bdm q26 (by decide)), (own_bdm q27 (by decide))⟩
  · -- o is (1 : Int32)
    refine og_dup2 X28 34 d14_33 rfl rfl rfl ?_
    have f34 := q16.keep K3 (ninS (Ne.symm (own_neA q4 (ow hw 25 rfl) q16)) (ninS q21 nin0))
    have f35 := f34.keep K18 (ninS (Ne.symm (own_neA f13 (ow hw 25 rfl) f34)) (ninS q22 nin0))
    have f36 := f35.keep K28 nin0
    refine own_ldI X28 35 d14_34 f36 (by decide) (by decide) rfl rfl ?_
    refine og_iconst X28 36 (1 : Int32) d14_35 rfl rfl ?_
    refine og_isub X28 37 d14_36 rfl ?_
    refine own_stI X28 38 d14_37 f36 (by decide) (by decide) (i := 1) (by decide) (Nat.le_of_ble_eq_true rfl) (om 4 rfl) rfl ?_
    intro T37 h37 X37 W37 K37 A37
    have f38 : Arv Z h37 w kw .int (3 : Int32) [(.int x0), (.int (x1 - (1 : Int32))), (.int x2)] (.int 0) := A37
    refine og_aloadN X37 39 d14_38 rfl rfl rfl ?_
    refine own_retA X37 d14_39 hret rfl rfl (by decide) (by decide) ?_
    exact ⟨x0, (x1 - (1 : Int32)), x2, rfl, f38, (own_bdm q25 (by decide)), (own_bds (own_bdm q26 (by decide)) (by decide)), (own_bdm q27 (by decide))⟩
  · -- o is (2 : Int32)
    refine og_dup2 X28 34 d14_33 rfl rfl rfl ?_
    have f39 := q16.keep K3 (ninS (Ne.symm (own_neA q4 (ow hw 25 rfl) q16)) (ninS q21 nin0))
    have f40 := f39.keep K18 (ninS (Ne.symm (own_neA f13 (ow hw 25 rfl) f39)) (ninS q22 nin0))
    have f41 := f40.keep K28 nin0
    refine own_ldI X28 35 d14_34 f41 (by decide) (by decide) rfl rfl ?_
    refine og_iconst X28 36 (1 : Int32) d14_35 rfl rfl ?_
    refine og_isub X28 37 d14_36 rfl ?_
    refine own_stI X28 38 d14_37 f41 (by decide) (by decide) (i := 2) (by decide) (Nat.le_of_ble_eq_true rfl) (om 4 rfl) rfl ?_
    intro T42 h42 X42 W42 K42 A42
    have f43 : Arv Z h42 w kw .int (3 : Int32) [(.int x0), (.int x1), (.int (x2 - (1 : Int32)))] (.int 0) := A42
    refine og_aloadN X42 39 d14_38 rfl rfl rfl ?_
    refine own_retA X42 d14_39 hret rfl rfl (by decide) (by decide) ?_
    exact ⟨x0, x1, (x2 - (1 : Int32)), rfl, f43, (own_bdm q25 (by decide)), (own_bdm q26 (by decide)), (own_bds (own_bdm q27 (by decide)) (by decide))⟩
theorem rm21 (l : Launch) (Z : State) (a0 : Array Value) (hw : ∀ d ∈ tables_1, d.before a0 Z = true) (n0 : Nat) (h0 : Heap) (hWd : OWorld Z a0) (wc : List Jvm.Cond) (O0 : Old Z n0 h0) (a : Addr)  :
    OMet l Z own_EL n0 (⟨"java/lang/Number", "<init>", "()V"⟩ : MethodName) (Jvm.Cond.code (⟨"java/lang/Number", "<init>", "()V"⟩ : MethodName) jdk_18_method_1_code 1 none :: wc) ({ frames := 1, cells := 0, slots := 0, locals := 12 } : Room) #[(.ref a)] h0 [] (fun vq hq => vq = none) := by
  refine own_enter #[.val (.ref a)] pn_java_lang_Number__init____V (ef_rm21 a) hWd.1 O0 all0 ?_
  intro p e s m below meth c T0 X0 hnm hret
  refine og_aloadN X0 1 d21_0 rfl rfl rfl ?_
  refine own_obj0 X0 4 (a := a) d21_1 (ow hw 162 rfl) (ow hw 22 rfl) (ow hw 23 rfl) rfl (W := 0) rfl (by decide) (by decide) rfl ?_
  intro T1 X2
  refine own_retV X2 d21_4 hret (by decide) (by decide) ?_
  exact rfl
theorem rm20 (l : Launch) (Z : State) (a0 : Array Value) (hw : ∀ d ∈ tables_1, d.before a0 Z = true) (n0 : Nat) (h0 : Heap) (hWd : OWorld Z a0) (wc : List Jvm.Cond) (O0 : Old Z n0 h0) (a : Addr) (x : Int32) (y : Int32) (q0 : Exa Z h0 a "java/lang/Integer") (q1 : Fld Z h0 a "java/lang/Integer" "value" "I" (.int y)) (g0 : n0 ≤ a ∧ a < h0.size) :
    OMet l Z own_EL n0 (⟨"java/lang/Integer", "<init>", "(I)V"⟩ : MethodName) (Jvm.Cond.code (⟨"java/lang/Integer", "<init>", "(I)V"⟩ : MethodName) jdk_33_method_23_code 2 none :: wc) ({ frames := 2, cells := 0, slots := 0, locals := 24 } : Room) #[(.ref a), (.int x)] h0 [a] (fun vq hq => vq = none) := by
  refine own_enter #[.val (.ref a), .val (.int x)] pn_java_lang_Integer__init___I_V (ef_rm20 a x y) hWd.1 O0 (allS g0 all0) ?_
  intro p e s m below meth c T0 X0 hnm hret
  refine og_aloadN X0 1 d20_0 rfl rfl rfl ?_
  refine own_spec X0 4 (a := a) (argsL := []) (rest := []) d20_1 rfl (rm21 l Z a0 hw n0 h0 hWd [] X0.old a  ) (ow hw 156 rfl) (ow hw 157 rfl) (ow hw 160 rfl) (ow hw 161 rfl) (by decide) (lenOf pd__28_29V rfl) rfl rfl rfl (W := 0) rfl (by decide) (by decide) (by decide) (by decide) all0 rfl ?_
  intro T1 h1 v1 X1 K1 hQ1
  obtain rfl := hQ1
  show OGo _ _ _ _ T1 (mkF m 4 #[.val (.ref a), .val (.int x)] [])
  refine og_aloadN X1 5 d20_4 rfl rfl rfl ?_
  refine og_iloadN X1 6 d20_5 rfl rfl ?_
  have f2 := q1.keep K1 nin0
  have f3 := q0.keep K1
  refine own_put X1 9 d20_6 (host := "") (Or.inl (ow hw 163 rfl)) Via.refl f2 f3 (Or.inr ⟨(ow hw 164 rfl), rfl, hnm⟩) (ow hw 151 rfl) (ty := .int) (by decide) rfl rfl (om 0 rfl) rfl ?_
  intro T4 h4 X4 W4 K4 F4
  refine own_retV X4 d20_9 hret (by decide) (by decide) ?_
  exact rfl
theorem rm9 (l : Launch) (Z : State) (a0 : Array Value) (hw : ∀ d ∈ tables_1, d.before a0 Z = true) (n0 : Nat) (h0 : Heap) (hWd : OWorld Z a0) (wc : List Jvm.Cond) (O0 : Old Z n0 h0) (x : Int32)  :
    OMet l Z own_EL n0 (⟨"java/lang/Integer", "valueOf", "(I)Ljava/lang/Integer;"⟩ : MethodName) (Jvm.Cond.code (⟨"java/lang/Integer", "valueOf", "(I)Ljava/lang/Integer;"⟩ : MethodName) jdk_33_method_22_code 1 (some (.object "java/lang/Integer")) :: wc) ({ frames := 3, cells := 1, slots := 1, locals := 38 } : Room) #[(.int x)] h0 [] (fun vq hq => ∃ (r : Addr), vq = some (.ref r) ∧ Exa Z hq r "java/lang/Integer") := by
  refine own_enter #[.val (.int x)] pn_java_lang_Integer_valueOf__I_Ljava_lang_Integer_ (ef_rm9 x) hWd.1 O0 all0 ?_
  intro p e s m below meth c T0 X0 hnm hret
  refine og_iloadN X0 1 d9_0 rfl rfl ?_
  refine og_bipush X0 3 (-128 : Int32) d9_1 rfl rfl ?_
  by_cases hc1 : x < (-128 : Int32)
  · -- x < (-128 : Int32)
    refine og_icmpY X0 23 d9_3 (XT.ii_lt_t hc1) (by decide) (by decide) ?_
    refine own_new X0 26 d9_23 (ow hw 150 rfl) (ow hw 151 rfl) (ow hw 81 rfl) (by decide) (by decide) rfl ?_
    intro T2 h2 b2 X2 K2 G2 U2 E2 D2
    have f3 : Fld Z h2 b2 "java/lang/Integer" "value" "I" (.int 0) := D2 (Or.inr (ow hw 164 rfl)) (ty := .int) (by decide)
    refine og_dup X2 27 d9_26 rfl rfl ?_
    refine og_iloadN X2 28 d9_27 rfl rfl ?_
    refine own_spec X2 31 (a := b2) (argsL := [(.int x)]) (rest := [(.ref b2)]) d9_28 rfl (rm20 l Z a0 hw n0 h2 hWd [] X2.old b2 x (0 : Int32) E2 f3 (own_svb X2 (om 0 rfl))) (ow hw 152 rfl) (ow hw 153 rfl) (ow hw 81 rfl) (ow hw 155 rfl) (by decide) (lenOf pd__28I_29V rfl) rfl rfl rfl (W := 1) rfl (by decide) (by decide) (by decide) (by decide) (allS (om 0 rfl) all0) rfl ?_
    intro T4 h4 v4 X4 K4 hQ4
    obtain rfl := hQ4
    show OGo _ _ _ _ T4 (mkF m 31 #[.val (.int x)] [(.ref b2)])
    have f5 := E2.keep K4
    refine own_retA X4 d9_31 hret rfl rfl (by decide) (by decide) ?_
    exact ⟨b2, rfl, f5⟩
  · -- not
    refine og_icmpN X0 6 d9_3 (XT.ii_lt_f hc1) rfl ?_
    refine og_iloadN X0 7 d9_6 rfl rfl ?_
    refine own_getS X0 10 d9_7 (host := "") (Or.inl (ow hw 83 rfl)) Via.refl hWd.2.1 rfl ?_
    intro T6 X7
    by_cases hc8 : (127 : Int32) < x
    · -- (127 : Int32) < x
      refine og_icmpY X7 23 d9_10 (XT.ii_gt_t hc8) (by decide) (by decide) ?_
      refine own_new X7 26 d9_23 (ow hw 150 rfl) (ow hw 151 rfl) (ow hw 81 rfl) (by decide) (by decide) rfl ?_
      intro T9 h9 b9 X9 K9 G9 U9 E9 D9
      have f10 : Fld Z h9 b9 "java/lang/Integer" "value" "I" (.int 0) := D9 (Or.inr (ow hw 164 rfl)) (ty := .int) (by decide)
      refine og_dup X9 27 d9_26 rfl rfl ?_
      refine og_iloadN X9 28 d9_27 rfl rfl ?_
      refine own_spec X9 31 (a := b9) (argsL := [(.int x)]) (rest := [(.ref b9)]) d9_28 rfl (rm20 l Z a0 hw n0 h9 hWd [] X9.old b9 x (0 : Int32) E9 f10 (own_svb X9 (om 0 rfl))) (ow hw 152 rfl) (ow hw 153 rfl) (ow hw 81 rfl) (ow hw 155 rfl) (by decide) (lenOf pd__28I_29V rfl) rfl rfl rfl (W := 1) rfl (by decide) (by decide) (by decide) (by decide) (allS (om 0 rfl) all0) rfl ?_
      intro T11 h11 v11 X11 K11 hQ11
      obtain rfl := hQ11
      show OGo _ _ _ _ T11 (mkF m 31 #[.val (.int x)] [(.ref b9)])
      have f12 := E9.keep K11
      refine own_retA X11 d9_31 hret rfl rfl (by decide) (by decide) ?_
      exact ⟨b9, rfl, f12⟩
    · -- not
      refine og_icmpN X7 13 d9_10 (XT.ii_gt_f hc8) rfl ?_
      obtain ⟨ca13, cc13, hS13, hB13⟩ := hWd.2.2.1
      refine own_getS X7 16 d9_13 (host := "") (Or.inl (ow hw 85 rfl)) Via.refl hS13 rfl ?_
      intro T14 X15
      refine og_iloadN X15 17 d9_16 rfl rfl ?_
      refine og_sipush X15 20 (128 : Int32) d9_17 rfl rfl ?_
      refine og_iadd X15 21 d9_20 rfl ?_
      have lc16 := own_ic hc1 hc8
      refine own_ldBox X15 22 d9_21 hB13 lc16.1 lc16.2 rfl ?_
      intro b16 E16 F16
      refine own_retA X15 d9_22 hret rfl rfl (by decide) (by decide) ?_
      exact ⟨b16, rfl, E16⟩
theorem rm0 (l : Launch) (Z : State) (a0 : Array Value) (hw : ∀ d ∈ tables_1, d.before a0 Z = true) (n0 : Nat) (h0 : Heap) (hWd : OWorld Z a0) (wc : List Jvm.Cond) (O0 : Old Z n0 h0) (pa : Int32) (pb : Int32) (pc_ : Int32) (pd : Int32) (pi : Int32) (pf : Int32)  :
    OMet l Z own_EL n0 x (Jvm.Cond.code x code maxLocals ret :: wc) room_1 #[(.int pa), (.int pb), (.int pc_), (.int pd), (.int pi), (.int pf)] h0 [] (fun vq hq => vq = some (.int 1)) := by
  refine own_enter #[.val (.int pa), .val (.int pb), .val (.int pc_), .val (.int pd), .val (.int pi), .val (.int pf), .unset, .unset, .unset, .unset, .unset, .unset, .unset, .unset, .unset, .unset, .unset] pn_com_example_bote_bote_service_SendQueueIsFullPinLaw_law__IIIIII_Z (ef_rm0 pa pb pc_ pd pi pf) hWd.1 O0 all0 ?_
  intro p e s m below meth c T0 X0 hnm hret
  refine og_iloadN X0 1 at_0 rfl rfl ?_
  refine own_stat X0 4 (argsL := [(.int pa)]) (rest := []) at_1 (rm1 l Z a0 hw n0 h0 hWd [] X0.old pa  ) (ow hw 0 rfl) (ow hw 1 rfl) (ow hw 2 rfl) (ow hw 3 rfl) (by decide) (lenOf pd__28I_29Lcom_2fexample_2fbote_2fbote_2fservice_2fSendQueue_24Kind_3b rfl) rfl rfl rfl (W := 0) rfl (by decide) (by decide) (by decide) (by decide) all0 rfl ?_
  intro T1 h1 v1 X1 K1 hQ1
  obtain ⟨r1, o1, mo1, rfl, f2, f3, f4, f5, f6, f7⟩ := hQ1
  show OGo _ _ _ _ T1 (mkF m 4 #[.val (.int pa), .val (.int pb), .val (.int pc_), .val (.int pd), .val (.int pi), .val (.int pf), .unset, .unset, .unset, .unset, .unset, .unset, .unset, .unset, .unset, .unset, .unset] [(.ref r1)])
  refine og_astore X1 6 #[.val (.int pa), .val (.int pb), .val (.int pc_), .val (.int pd), .val (.int pi), .val (.int pf), .val (.ref r1), .unset, .unset, .unset, .unset, .unset, .unset, .unset, .unset, .unset, .unset] at_4 rfl rfl rfl ?_
  refine og_iloadN X1 7 at_6 rfl rfl ?_
  refine own_stat X1 10 (argsL := [(.int pb)]) (rest := []) at_7 (rm1 l Z a0 hw n0 h1 hWd [] X1.old pb  ) (ow hw 0 rfl) (ow hw 1 rfl) (ow hw 2 rfl) (ow hw 3 rfl) (by decide) (lenOf pd__28I_29Lcom_2fexample_2fbote_2fbote_2fservice_2fSendQueue_24Kind_3b rfl) rfl rfl rfl (W := 0) rfl (by decide) (by decide) (by decide) (by decide) all0 rfl ?_
  intro T8 h8 v8 X8 K8 hQ8
  obtain ⟨r8, o8, mo8, rfl, f9, f10, f11, f12, f13, f14⟩ := hQ8
  show OGo _ _ _ _ T8 (mkF m 10 #[.val (.int pa), .val (.int pb), .val (.int pc_), .val (.int pd), .val (.int pi), .val (.int pf), .val (.ref r1), .unset, .unset, .unset, .unset, .unset, .unset, .unset, .unset, .unset, .unset] [(.ref r8)])
  refine og_astore X8 12 #[.val (.int pa), .val (.int pb), .val (.int pc_), .val (.int pd), .val (.int pi), .val (.int pf), .val (.ref r1), .val (.ref r8), .unset, .unset, .unset, .unset, .unset, .unset, .unset, .unset, .unset] at_10 rfl rfl rfl ?_
  refine og_iloadN X8 13 at_12 rfl rfl ?_
  refine own_stat X8 16 (argsL := [(.int pc_)]) (rest := []) at_13 (rm1 l Z a0 hw n0 h8 hWd [] X8.old pc_  ) (ow hw 0 rfl) (ow hw 1 rfl) (ow hw 2 rfl) (ow hw 3 rfl) (by decide) (lenOf pd__28I_29Lcom_2fexample_2fbote_2fbote_2fservice_2fSendQueue_24Kind_3b rfl) rfl rfl rfl (W := 0) rfl (by decide) (by decide) (by decide) (by decide) all0 rfl ?_
  intro T15 h15 v15 X15 K15 hQ15
  obtain ⟨r15, o15, mo15, rfl, f16, f17, f18, f19, f20, f21⟩ := hQ15
  show OGo _ _ _ _ T15 (mkF m 16 #[.val (.int pa), .val (.int pb), .val (.int pc_), .val (.int pd), .val (.int pi), .val (.int pf), .val (.ref r1), .val (.ref r8), .unset, .unset, .unset, .unset, .unset, .unset, .unset, .unset, .unset] [(.ref r15)])
  refine og_astore X15 18 #[.val (.int pa), .val (.int pb), .val (.int pc_), .val (.int pd), .val (.int pi), .val (.int pf), .val (.ref r1), .val (.ref r8), .val (.ref r15), .unset, .unset, .unset, .unset, .unset, .unset, .unset, .unset] at_16 rfl rfl rfl ?_
  refine og_iloadN X15 19 at_18 rfl rfl ?_
  refine own_stat X15 22 (argsL := [(.int pd)]) (rest := []) at_19 (rm1 l Z a0 hw n0 h15 hWd [] X15.old pd  ) (ow hw 0 rfl) (ow hw 1 rfl) (ow hw 2 rfl) (ow hw 3 rfl) (by decide) (lenOf pd__28I_29Lcom_2fexample_2fbote_2fbote_2fservice_2fSendQueue_24Kind_3b rfl) rfl rfl rfl (W := 0) rfl (by decide) (by decide) (by decide) (by decide) all0 rfl ?_
  intro T22 h22 v22 X22 K22 hQ22
  obtain ⟨r22, o22, mo22, rfl, f23, f24, f25, f26, f27, f28⟩ := hQ22
  show OGo _ _ _ _ T22 (mkF m 22 #[.val (.int pa), .val (.int pb), .val (.int pc_), .val (.int pd), .val (.int pi), .val (.int pf), .val (.ref r1), .val (.ref r8), .val (.ref r15), .unset, .unset, .unset, .unset, .unset, .unset, .unset, .unset] [(.ref r22)])
  refine og_astore X22 24 #[.val (.int pa), .val (.int pb), .val (.int pc_), .val (.int pd), .val (.int pi), .val (.int pf), .val (.ref r1), .val (.ref r8), .val (.ref r15), .val (.ref r22), .unset, .unset, .unset, .unset, .unset, .unset, .unset] at_22 rfl rfl rfl ?_
  refine og_iload X22 26 at_24 rfl rfl ?_
  refine og_iconst X22 27 (1 : Int32) at_26 rfl rfl ?_
  refine og_iand X22 28 at_27 rfl ?_
  by_cases hc29 : (pf &&& (1 : Int32)) = 0
  · -- (pf &&& (1 : Int32)) = 0
    refine og_ifY X22 35 at_28 (XT.i0_eq_t hc29) (by decide) (by decide) ?_
    refine og_iconst X22 36 (0 : Int32) at_35 rfl rfl ?_
    refine og_istore X22 38 #[.val (.int pa), .val (.int pb), .val (.int pc_), .val (.int pd), .val (.int pi), .val (.int pf), .val (.ref r1), .val (.ref r8), .val (.ref r15), .val (.ref r22), .val (.int 0), .unset, .unset, .unset, .unset, .unset, .unset] at_36 rfl rfl ?_
    refine own_new X22 41 at_38 (ow hw 15 rfl) (ow hw 16 rfl) (ow hw 17 rfl) (by decide) (by decide) rfl ?_
    intro T30 h30 b30 X30 K30 G30 U30 E30 D30
    have f31 : Fld Z h30 b30 "com/example/bote/bote/service/SendQueue" "items" "Ljava/util/Deque;" .null := D30 (Or.inr (ow hw 42 rfl)) (ty := (.object "java/util/Deque")) (by decide)
    have f32 : Fld Z h30 b30 "com/example/bote/bote/service/SendQueue" "kinds" "Ljava/util/Deque;" .null := D30 (Or.inr (ow hw 44 rfl)) (ty := (.object "java/util/Deque")) (by decide)
    have f33 : Fld Z h30 b30 "com/example/bote/bote/service/SendQueue" "waiting" "[I" .null := D30 (Or.inr (ow hw 62 rfl)) (ty := (.array .int)) (by decide)
    refine og_dup X30 42 at_41 rfl rfl ?_
    refine own_spec X30 45 (a := b30) (argsL := []) (rest := [(.ref b30)]) at_42 rfl (rm2 l Z a0 hw n0 h30 hWd [] X30.old b30 E30 f31 f32 f33 (own_svb X30 (om 0 rfl))) (ow hw 18 rfl) (ow hw 19 rfl) (ow hw 17 rfl) (ow hw 20 rfl) (by decide) (lenOf pd__28_29V rfl) rfl rfl rfl (W := 1) rfl (by decide) (by decide) (by decide) (by decide) (allS (om 0 rfl) all0) rfl ?_
    intro T34 h34 v34 X34 K34 hQ34
    obtain ⟨d134, e134, ke134, d234, e234, ke234, w34, kw34, rfl, ge_d134, ge_e134, ge_d234, ge_e234, ge_w34, f35, f36, f37, f38, f39, f40, f41, f42, f43, f44, f45, f46, f47, f48, f49, f50, f51, f52, f53, f54⟩ := hQ34
    show OGo _ _ _ _ T34 (mkF m 45 #[.val (.int pa), .val (.int pb), .val (.int pc_), .val (.int pd), .val (.int pi), .val (.int pf), .val (.ref r1), .val (.ref r8), .val (.ref r15), .val (.ref r22), .val (.int 0), .unset, .unset, .unset, .unset, .unset, .unset] [(.ref b30)])
    refine og_astore X34 47 #[.val (.int pa), .val (.int pb), .val (.int pc_), .val (.int pd), .val (.int pi), .val (.int pf), .val (.ref r1), .val (.ref r8), .val (.ref r15), .val (.ref r22), .val (.int 0), .val (.ref b30), .unset, .unset, .unset, .unset, .unset] at_45 rfl rfl rfl ?_
    refine og_aload X34 49 at_47 rfl rfl rfl ?_
    refine og_aload X34 51 at_49 rfl rfl rfl ?_
    have f55 := E30.keep K34
    have f56 := f3.keep K8
    have f57 := f56.keep K15
    have f58 := f57.keep K22
    have f59 := f58.keep K30
    have f60 := f59.keep K34
    have f61 := f4.keep K8 nin0
    have f62 := f61.keep K15 nin0
    have f63 := f62.keep K22 nin0
    have f64 := f63.keep K30 nin0
    have f65 := f64.keep K34 (ninS (Nat.ne_of_lt (Nat.lt_of_lt_of_le (Nat.lt_of_lt_of_le f3.lt (Nat.le_trans (Nat.le_trans K8.1 K15.1) K22.1)) G30)) nin0)
    have f66 := f5.keep K8 nin0
    have f67 := f66.keep K15 nin0
    have f68 := f67.keep K22 nin0
    have f69 := f68.keep K30 nin0
    have f70 := f69.keep K34 (ninS (Nat.ne_of_lt (Nat.lt_of_lt_of_le (Nat.lt_of_lt_of_le f3.lt (Nat.le_trans (Nat.le_trans K8.1 K15.1) K22.1)) G30)) nin0)
    refine own_virt X34 54 (a := b30) (argsL := [(.ref r1)]) (rest := []) at_51 f55 (fun _ hZ => notFace_of_selects (args := #[]) (mvT hZ (ow hw 66 rfl))) (rm7 l Z a0 hw n0 h34 hWd [] X34.old b30 r1 o1 mo1 w34 kw34 (0 : Int32) (0 : Int32) (0 : Int32) f37 f60 f65 f70 f50 f6 f7 (own_bd0 _) (own_bd0 _) (own_bd0 _) ) (ow hw 63 rfl) (ow hw 64 rfl) (ow hw 66 rfl) (ow hw 65 rfl) (ow hw 17 rfl) (ow hw 67 rfl) (by decide) (lenOf pd__28Lcom_2fexample_2fbote_2fbote_2fservice_2fSendQueue_24Kind_3b_29Z rfl) rfl rfl rfl (W := 0) rfl (by decide) (by decide) (by decide) (by decide) all0 rfl ?_
    intro T71 h71 v71 X71 K71 hQ71
    obtain rfl := hQ71
    show OGo _ _ _ _ T71 (mkF m 54 #[.val (.int pa), .val (.int pb), .val (.int pc_), .val (.int pd), .val (.int pi), .val (.int pf), .val (.ref r1), .val (.ref r8), .val (.ref r15), .val (.ref r22), .val (.int 0), .val (.ref b30), .unset, .unset, .unset, .unset, .unset] [(.int 0)])
    refine og_istore X71 56 #[.val (.int pa), .val (.int pb), .val (.int pc_), .val (.int pd), .val (.int pi), .val (.int pf), .val (.ref r1), .val (.ref r8), .val (.ref r15), .val (.ref r22), .val (.int 0), .val (.ref b30), .val (.int 0), .unset, .unset, .unset, .unset] at_54 rfl rfl ?_
    refine og_aload X71 58 at_56 rfl rfl rfl ?_
    refine og_iload X71 60 at_58 rfl rfl ?_
    refine own_stat X71 63 (argsL := [(.int pi)]) (rest := [(.ref b30)]) at_60 (rm9 l Z a0 hw n0 h71 hWd [] X71.old pi  ) (ow hw 79 rfl) (ow hw 80 rfl) (ow hw 81 rfl) (ow hw 82 rfl) (by decide) (lenOf pd__28I_29Ljava_2flang_2fInteger_3b rfl) rfl rfl rfl (W := 1) rfl (by decide) (by decide) (by decide) (by decide) all0 rfl ?_
    intro T72 h72 v72 X72 K72 hQ72
    obtain ⟨r72, rfl, f73⟩ := hQ72
    show OGo _ _ _ _ T72 (mkF m 63 #[.val (.int pa), .val (.int pb), .val (.int pc_), .val (.int pd), .val (.int pi), .val (.int pf), .val (.ref r1), .val (.ref r8), .val (.ref r15), .val (.ref r22), .val (.int 0), .val (.ref b30), .val (.int 0), .unset, .unset, .unset, .unset] [(.ref r72), (.ref b30)])
    refine og_aload X72 65 at_63 rfl rfl rfl ?_
    have f74 := f55.keep K71
    have f75 := f74.keep K72
    have f76 := f35.keep K71 nin0
    have f77 := f76.keep K72 nin0
    have f78 := f36.keep K71 nin0
    have f79 := f78.keep K72 nin0
    have f80 := f37.keep K71 nin0
    have f81 := f80.keep K72 nin0
    have f82 := f38.keep K71
    have f83 := f82.keep K72
    have f84 := f39.keep K71 nin0
    have f85 := f84.keep K72 nin0
    have f86 := f40.keep K71 nin0
    have f87 := f86.keep K72 nin0
    have f88 := f41.keep K71 nin0
    have f89 := f88.keep K72 nin0
    have f90 := f42.keep K71 nin0
    have f91 := f90.keep K72 nin0
    have f92 := f44.keep K71
    have f93 := f92.keep K72
    have f94 := f45.keep K71 nin0
    have f95 := f94.keep K72 nin0
    have f96 := f46.keep K71 nin0
    have f97 := f96.keep K72 nin0
    have f98 := f47.keep K71 nin0
    have f99 := f98.keep K72 nin0
    have f100 := f48.keep K71 nin0
    have f101 := f100.keep K72 nin0
    have f102 := f50.keep K71 nin0
    have f103 := f102.keep K72 nin0
    have f104 := f10.keep K15
    have f105 := f104.keep K22
    have f106 := f105.keep K30
    have f107 := f106.keep K34
    have f108 := f107.keep K71
    have f109 := f108.keep K72
    have f110 := f11.keep K15 nin0
    have f111 := f110.keep K22 nin0
    have f112 := f111.keep K30 nin0
    have f113 := f112.keep K34 (ninS (Nat.ne_of_lt (Nat.lt_of_lt_of_le (Nat.lt_of_lt_of_le f10.lt (Nat.le_trans K15.1 K22.1)) G30)) nin0)
    have f114 := f113.keep K71 nin0
    have f115 := f114.keep K72 nin0
    have f116 := f12.keep K15 nin0
    have f117 := f116.keep K22 nin0
    have f118 := f117.keep K30 nin0
    have f119 := f118.keep K34 (ninS (Nat.ne_of_lt (Nat.lt_of_lt_of_le (Nat.lt_of_lt_of_le f10.lt (Nat.le_trans K15.1 K22.1)) G30)) nin0)
    have f120 := f119.keep K71 nin0
    have f121 := f120.keep K72 nin0
    have X122 := own_svE X72 f83 (by decide) (by decide) (Nat.le_trans (own_n0 X30) ge_d134) (Nat.le_trans (Nat.le_trans (Nat.le_trans (Nat.le_trans (Nat.le_trans K1.1 K8.1) K15.1) K22.1) K30.1) ge_d134)
    have X123 := own_svA X122 f91 (by decide) (Nat.le_trans (own_n0 X30) ge_e134) (Nat.le_trans (Nat.le_trans (Nat.le_trans (Nat.le_trans (Nat.le_trans K1.1 K8.1) K15.1) K22.1) K30.1) ge_e134)
    have X124 := own_svE X123 f93 (by decide) (by decide) (Nat.le_trans (own_n0 X30) ge_d234) (Nat.le_trans (Nat.le_trans (Nat.le_trans (Nat.le_trans (Nat.le_trans K1.1 K8.1) K15.1) K22.1) K30.1) ge_d234)
    have X125 := own_svA X124 f101 (by decide) (Nat.le_trans (own_n0 X30) ge_e234) (Nat.le_trans (Nat.le_trans (Nat.le_trans (Nat.le_trans (Nat.le_trans K1.1 K8.1) K15.1) K22.1) K30.1) ge_e234)
    have X126 := own_svA X125 f103 (by decide) (Nat.le_trans (own_n0 X30) ge_w34) (Nat.le_trans (Nat.le_trans (Nat.le_trans (Nat.le_trans (Nat.le_trans K1.1 K8.1) K15.1) K22.1) K30.1) ge_w34)
    refine own_virt X126 68 (a := b30) (argsL := [(.ref r72), (.ref r8)]) (rest := []) at_65 f75 (fun _ hZ => notFace_of_selects (args := #[]) (mvT hZ (ow hw 89 rfl))) (rq_add0 l Z a0 hw n0 h72 hWd [] X126.old b30 r72 r8 o8 mo8 d134 e134 ke134 d234 e234 ke234 w34 kw34 (0 : Int32) (0 : Int32) (0 : Int32) f75 f77 f79 f81 f83 f85 f87 f89 f91 f43 f93 f95 f97 f99 f101 f49 f103 f73 f109 f115 f121 f51 f52 f53 f54 f9 f13 f14 (own_bd0 _) (own_bd0 _) (own_bd0 _) (own_svb X122 (om 0 rfl)) (own_svb X123 (om 0 rfl)) (own_svb X124 (om 0 rfl)) (own_svb X125 (om 0 rfl)) (own_svb X126 (om 0 rfl))) (ow hw 86 rfl) (ow hw 87 rfl) (ow hw 89 rfl) (ow hw 88 rfl) (ow hw 17 rfl) (ow hw 90 rfl) (by decide) (lenOf pd__28Ljava_2flang_2fObject_3bLcom_2fexample_2fbote_2fbote_2fservice_2fSendQueue_24Kind_3b_29Z rfl) rfl rfl rfl (W := 0) rfl (by decide) (by decide) (by decide) (by decide) (allS (om 4 rfl) (allS (om 3 rfl) (allS (om 2 rfl) (allS (om 1 rfl) (allS (om 0 rfl) all0))))) rfl ?_
    intro T127 h127 v127 X127 K127 hQ127
    obtain ⟨y0127, y1127, y2127, rfl, f128, f129, f130, f131, f132, f133, f134, f135, f136, f137, f138, f139⟩ := hQ127
    show OGo _ _ _ _ T127 (mkF m 68 #[.val (.int pa), .val (.int pb), .val (.int pc_), .val (.int pd), .val (.int pi), .val (.int pf), .val (.ref r1), .val (.ref r8), .val (.ref r15), .val (.ref r22), .val (.int 0), .val (.ref b30), .val (.int 0), .unset, .unset, .unset, .unset] [(.int 1)])
    refine og_istore X127 70 #[.val (.int pa), .val (.int pb), .val (.int pc_), .val (.int pd), .val (.int pi), .val (.int pf), .val (.ref r1), .val (.ref r8), .val (.ref r15), .val (.ref r22), .val (.int 0), .val (.ref b30), .val (.int 0), .val (.int 1), .unset, .unset, .unset] at_68 rfl rfl ?_
    refine og_aload X127 72 at_70 rfl rfl rfl ?_
    refine og_aload X127 74 at_72 rfl rfl rfl ?_
    have f140 := f75.keep K127
    have f141 := f81.keep K127 (ninS (Nat.ne_of_lt (Nat.lt_of_lt_of_le U30 ge_d134)) (ninS (Nat.ne_of_lt (Nat.lt_of_lt_of_le U30 ge_e134)) (ninS (Nat.ne_of_lt (Nat.lt_of_lt_of_le U30 ge_d234)) (ninS (Nat.ne_of_lt (Nat.lt_of_lt_of_le U30 ge_e234)) (ninS (Nat.ne_of_lt (Nat.lt_of_lt_of_le U30 ge_w34)) nin0)))))
    have f142 := f109.keep K127
    have f143 := f115.keep K127 (ninS (Nat.ne_of_lt (Nat.lt_of_lt_of_le (Nat.lt_of_lt_of_le f10.lt (Nat.le_trans (Nat.le_trans K15.1 K22.1) K30.1)) ge_d134)) (ninS (Nat.ne_of_lt (Nat.lt_of_lt_of_le (Nat.lt_of_lt_of_le f10.lt (Nat.le_trans (Nat.le_trans K15.1 K22.1) K30.1)) ge_e134)) (ninS (Nat.ne_of_lt (Nat.lt_of_lt_of_le (Nat.lt_of_lt_of_le f10.lt (Nat.le_trans (Nat.le_trans K15.1 K22.1) K30.1)) ge_d234)) (ninS (Nat.ne_of_lt (Nat.lt_of_lt_of_le (Nat.lt_of_lt_of_le f10.lt (Nat.le_trans (Nat.le_trans K15.1 K22.1) K30.1)) ge_e234)) (ninS (Nat.ne_of_lt (Nat.lt_of_lt_of_le (Nat.lt_of_lt_of_le f10.lt (Nat.le_trans (Nat.le_trans K15.1 K22.1) K30.1)) ge_w34)) nin0)))))
    have f144 := f121.keep K127 (ninS (Nat.ne_of_lt (Nat.lt_of_lt_of_le (Nat.lt_of_lt_of_le f10.lt (Nat.le_trans (Nat.le_trans K15.1 K22.1) K30.1)) ge_d134)) (ninS (Nat.ne_of_lt (Nat.lt_of_lt_of_le (Nat.lt_of_lt_of_le f10.lt (Nat.le_trans (Nat.le_trans K15.1 K22.1) K30.1)) ge_e134)) (ninS (Nat.ne_of_lt (Nat.lt_of_lt_of_le (Nat.lt_of_lt_of_le f10.lt (Nat.le_trans (Nat.le_trans K15.1 K22.1) K30.1)) ge_d234)) (ninS (Nat.ne_of_lt (Nat.lt_of_lt_of_le (Nat.lt_of_lt_of_le f10.lt (Nat.le_trans (Nat.le_trans K15.1 K22.1) K30.1)) ge_e234)) (ninS (Nat.ne_of_lt (Nat.lt_of_lt_of_le (Nat.lt_of_lt_of_le f10.lt (Nat.le_trans (Nat.le_trans K15.1 K22.1) K30.1)) ge_w34)) nin0)))))
    refine own_virt X127 77 (a := b30) (argsL := [(.ref r8)]) (rest := []) at_74 f140 (fun _ hZ => notFace_of_selects (args := #[]) (mvT hZ (ow hw 66 rfl))) (rm7 l Z a0 hw n0 h127 hWd [] X127.old b30 r8 o8 mo8 w34 kw34 y0127 y1127 y2127 f141 f142 f143 f144 f136 f13 f14 (own_bdm f137 (by decide)) (own_bdm f138 (by decide)) (own_bdm f139 (by decide)) ) (ow hw 63 rfl) (ow hw 64 rfl) (ow hw 66 rfl) (ow hw 65 rfl) (ow hw 17 rfl) (ow hw 67 rfl) (by decide) (lenOf pd__28Lcom_2fexample_2fbote_2fbote_2fservice_2fSendQueue_24Kind_3b_29Z rfl) rfl rfl rfl (W := 0) rfl (by decide) (by decide) (by decide) (by decide) all0 rfl ?_
    intro T145 h145 v145 X145 K145 hQ145
    obtain rfl := hQ145
    show OGo _ _ _ _ T145 (mkF m 77 #[.val (.int pa), .val (.int pb), .val (.int pc_), .val (.int pd), .val (.int pi), .val (.int pf), .val (.ref r1), .val (.ref r8), .val (.ref r15), .val (.ref r22), .val (.int 0), .val (.ref b30), .val (.int 0), .val (.int 1), .unset, .unset, .unset] [(.int 0)])
    refine og_istore X145 79 #[.val (.int pa), .val (.int pb), .val (.int pc_), .val (.int pd), .val (.int pi), .val (.int pf), .val (.ref r1), .val (.ref r8), .val (.ref r15), .val (.ref r22), .val (.int 0), .val (.ref b30), .val (.int 0), .val (.int 1), .val (.int 0), .unset, .unset] at_77 rfl rfl ?_
    refine og_aload X145 81 at_79 rfl rfl rfl ?_
    refine og_iload X145 83 at_81 rfl rfl ?_
    refine og_iload X145 85 at_83 rfl rfl ?_
    refine og_ixor X145 86 at_85 rfl ?_
    refine own_stat X145 89 (argsL := [(.int (pi ^^^ pf))]) (rest := [(.ref b30)]) at_86 (rm9 l Z a0 hw n0 h145 hWd [] X145.old (pi ^^^ pf)  ) (ow hw 79 rfl) (ow hw 80 rfl) (ow hw 81 rfl) (ow hw 82 rfl) (by decide) (lenOf pd__28I_29Ljava_2flang_2fInteger_3b rfl) rfl rfl rfl (W := 1) rfl (by decide) (by decide) (by decide) (by decide) all0 rfl ?_
    intro T146 h146 v146 X146 K146 hQ146
    obtain ⟨r146, rfl, f147⟩ := hQ146
    show OGo _ _ _ _ T146 (mkF m 89 #[.val (.int pa), .val (.int pb), .val (.int pc_), .val (.int pd), .val (.int pi), .val (.int pf), .val (.ref r1), .val (.ref r8), .val (.ref r15), .val (.ref r22), .val (.int 0), .val (.ref b30), .val (.int 0), .val (.int 1), .val (.int 0), .unset, .unset] [(.ref r146), (.ref b30)])
    refine og_aload X146 91 at_89 rfl rfl rfl ?_
    have f148 := f140.keep K145
    have f149 := f148.keep K146
    have f150 := f77.keep K127 (ninS (Nat.ne_of_lt (Nat.lt_of_lt_of_le U30 ge_d134)) (ninS (Nat.ne_of_lt (Nat.lt_of_lt_of_le U30 ge_e134)) (ninS (Nat.ne_of_lt (Nat.lt_of_lt_of_le U30 ge_d234)) (ninS (Nat.ne_of_lt (Nat.lt_of_lt_of_le U30 ge_e234)) (ninS (Nat.ne_of_lt (Nat.lt_of_lt_of_le U30 ge_w34)) nin0)))))
    have f151 := f150.keep K145 nin0
    have f152 := f151.keep K146 nin0
    have f153 := f79.keep K127 (ninS (Nat.ne_of_lt (Nat.lt_of_lt_of_le U30 ge_d134)) (ninS (Nat.ne_of_lt (Nat.lt_of_lt_of_le U30 ge_e134)) (ninS (Nat.ne_of_lt (Nat.lt_of_lt_of_le U30 ge_d234)) (ninS (Nat.ne_of_lt (Nat.lt_of_lt_of_le U30 ge_e234)) (ninS (Nat.ne_of_lt (Nat.lt_of_lt_of_le U30 ge_w34)) nin0)))))
    have f154 := f153.keep K145 nin0
    have f155 := f154.keep K146 nin0
    have f156 := f141.keep K145 nin0
    have f157 := f156.keep K146 nin0
    have f158 := f83.keep K127
    have f159 := f158.keep K145
    have f160 := f159.keep K146
    have f161 := f128.keep K145 nin0
    have f162 := f161.keep K146 nin0
    have f163 := f129.keep K145 nin0
    have f164 := f163.keep K146 nin0
    have f165 := f130.keep K145 nin0
    have f166 := f165.keep K146 nin0
    have f167 := f131.keep K145 nin0
    have f168 := f167.keep K146 nin0
    have f169 := f93.keep K127
    have f170 := f169.keep K145
    have f171 := f170.keep K146
    have f172 := f132.keep K145 nin0
    have f173 := f172.keep K146 nin0
    have f174 := f133.keep K145 nin0
    have f175 := f174.keep K146 nin0
    have f176 := f134.keep K145 nin0
    have f177 := f176.keep K146 nin0
    have f178 := f135.keep K145 nin0
    have f179 := f178.keep K146 nin0
    have f180 := f136.keep K145 nin0
    have f181 := f180.keep K146 nin0
    have f182 := f17.keep K22
    have f183 := f182.keep K30
    have f184 := f183.keep K34
    have f185 := f184.keep K71
    have f186 := f185.keep K72
    have f187 := f186.keep K127
    have f188 := f187.keep K145
    have f189 := f188.keep K146
    have f190 := f18.keep K22 nin0
    have f191 := f190.keep K30 nin0
    have f192 := f191.keep K34 (ninS (Nat.ne_of_lt (Nat.lt_of_lt_of_le (Nat.lt_of_lt_of_le f17.lt K22.1) G30)) nin0)
    have f193 := f192.keep K71 nin0
    have f194 := f193.keep K72 nin0
    have f195 := f194.keep K127 (ninS (Nat.ne_of_lt (Nat.lt_of_lt_of_le (Nat.lt_of_lt_of_le f17.lt (Nat.le_trans K22.1 K30.1)) ge_d134)) (ninS (Nat.ne_of_lt (Nat.lt_of_lt_of_le (Nat.lt_of_lt_of_le f17.lt (Nat.le_trans K22.1 K30.1)) ge_e134)) (ninS (Nat.ne_of_lt (Nat.lt_of_lt_of_le (Nat.lt_of_lt_of_le f17.lt (Nat.le_trans K22.1 K30.1)) ge_d234)) (ninS (Nat.ne_of_lt (Nat.lt_of_lt_of_le (Nat.lt_of_lt_of_le f17.lt (Nat.le_trans K22.1 K30.1)) ge_e234)) (ninS (Nat.ne_of_lt (Nat.lt_of_lt_of_le (Nat.lt_of_lt_of_le f17.lt (Nat.le_trans K22.1 K30.1)) ge_w34)) nin0)))))
    have f196 := f195.keep K145 nin0
    have f197 := f196.keep K146 nin0
    have f198 := f19.keep K22 nin0
    have f199 := f198.keep K30 nin0
    have f200 := f199.keep K34 (ninS (Nat.ne_of_lt (Nat.lt_of_lt_of_le (Nat.lt_of_lt_of_le f17.lt K22.1) G30)) nin0)
    have f201 := f200.keep K71 nin0
    have f202 := f201.keep K72 nin0
    have f203 := f202.keep K127 (ninS (Nat.ne_of_lt (Nat.lt_of_lt_of_le (Nat.lt_of_lt_of_le f17.lt (Nat.le_trans K22.1 K30.1)) ge_d134)) (ninS (Nat.ne_of_lt (Nat.lt_of_lt_of_le (Nat.lt_of_lt_of_le f17.lt (Nat.le_trans K22.1 K30.1)) ge_e134)) (ninS (Nat.ne_of_lt (Nat.lt_of_lt_of_le (Nat.lt_of_lt_of_le f17.lt (Nat.le_trans K22.1 K30.1)) ge_d234)) (ninS (Nat.ne_of_lt (Nat.lt_of_lt_of_le (Nat.lt_of_lt_of_le f17.lt (Nat.le_trans K22.1 K30.1)) ge_e234)) (ninS (Nat.ne_of_lt (Nat.lt_of_lt_of_le (Nat.lt_of_lt_of_le f17.lt (Nat.le_trans K22.1 K30.1)) ge_w34)) nin0)))))
    have f204 := f203.keep K145 nin0
    have f205 := f204.keep K146 nin0
    refine own_virt X146 94 (a := b30) (argsL := [(.ref r146), (.ref r15)]) (rest := []) at_91 f149 (fun _ hZ => notFace_of_selects (args := #[]) (mvT hZ (ow hw 89 rfl))) (rq_add1 l Z a0 hw n0 h146 hWd [] X146.old b30 r146 r15 o15 mo15 d134 e134 ke134 d234 e234 ke234 w34 kw34 y0127 y1127 y2127 r72 r8 f149 f152 f155 f157 f160 f162 f164 f166 f168 f43 f171 f173 f175 f177 f179 f49 f181 f147 f189 f197 f205 f51 f52 f53 f54 f16 f20 f21 f137 f138 f139 (own_svb X146 (om 4 rfl)) (own_svb X146 (om 3 rfl)) (own_svb X146 (om 2 rfl)) (own_svb X146 (om 1 rfl)) (own_svb X146 (om 0 rfl))) (ow hw 86 rfl) (ow hw 87 rfl) (ow hw 89 rfl) (ow hw 88 rfl) (ow hw 17 rfl) (ow hw 90 rfl) (by decide) (lenOf pd__28Ljava_2flang_2fObject_3bLcom_2fexample_2fbote_2fbote_2fservice_2fSendQueue_24Kind_3b_29Z rfl) rfl rfl rfl (W := 0) rfl (by decide) (by decide) (by decide) (by decide) (allS (om 4 rfl) (allS (om 3 rfl) (allS (om 2 rfl) (allS (om 1 rfl) (allS (om 0 rfl) all0))))) rfl ?_
    intro T206 h206 v206 X206 K206 hQ206
    obtain ⟨y0206, y1206, y2206, rfl, f207, f208, f209, f210, f211, f212, f213, f214, f215, f216, f217, f218⟩ := hQ206
    show OGo _ _ _ _ T206 (mkF m 94 #[.val (.int pa), .val (.int pb), .val (.int pc_), .val (.int pd), .val (.int pi), .val (.int pf), .val (.ref r1), .val (.ref r8), .val (.ref r15), .val (.ref r22), .val (.int 0), .val (.ref b30), .val (.int 0), .val (.int 1), .val (.int 0), .unset, .unset] [(.int 1)])
    refine og_istore X206 96 #[.val (.int pa), .val (.int pb), .val (.int pc_), .val (.int pd), .val (.int pi), .val (.int pf), .val (.ref r1), .val (.ref r8), .val (.ref r15), .val (.ref r22), .val (.int 0), .val (.ref b30), .val (.int 0), .val (.int 1), .val (.int 0), .val (.int 1), .unset] at_94 rfl rfl ?_
    refine og_iload X206 98 at_96 rfl rfl ?_
    refine og_ifY X206 107 at_98 (XT.i0_eq_t (by decide)) (by decide) (by decide) ?_
    refine og_aload X206 109 at_107 rfl rfl rfl ?_
    refine og_aload X206 111 at_109 rfl rfl rfl ?_
    have f219 := f149.keep K206
    have f220 := f157.keep K206 (ninS (Nat.ne_of_lt (Nat.lt_of_lt_of_le U30 ge_d134)) (ninS (Nat.ne_of_lt (Nat.lt_of_lt_of_le U30 ge_e134)) (ninS (Nat.ne_of_lt (Nat.lt_of_lt_of_le U30 ge_d234)) (ninS (Nat.ne_of_lt (Nat.lt_of_lt_of_le U30 ge_e234)) (ninS (Nat.ne_of_lt (Nat.lt_of_lt_of_le U30 ge_w34)) nin0)))))
    have f221 := f24.keep K30
    have f222 := f221.keep K34
    have f223 := f222.keep K71
    have f224 := f223.keep K72
    have f225 := f224.keep K127
    have f226 := f225.keep K145
    have f227 := f226.keep K146
    have f228 := f227.keep K206
    have f229 := f25.keep K30 nin0
    have f230 := f229.keep K34 (ninS (Nat.ne_of_lt (Nat.lt_of_lt_of_le f24.lt G30)) nin0)
    have f231 := f230.keep K71 nin0
    have f232 := f231.keep K72 nin0
    have f233 := f232.keep K127 (ninS (Nat.ne_of_lt (Nat.lt_of_lt_of_le (Nat.lt_of_lt_of_le f24.lt K30.1) ge_d134)) (ninS (Nat.ne_of_lt (Nat.lt_of_lt_of_le (Nat.lt_of_lt_of_le f24.lt K30.1) ge_e134)) (ninS (Nat.ne_of_lt (Nat.lt_of_lt_of_le (Nat.lt_of_lt_of_le f24.lt K30.1) ge_d234)) (ninS (Nat.ne_of_lt (Nat.lt_of_lt_of_le (Nat.lt_of_lt_of_le f24.lt K30.1) ge_e234)) (ninS (Nat.ne_of_lt (Nat.lt_of_lt_of_le (Nat.lt_of_lt_of_le f24.lt K30.1) ge_w34)) nin0)))))
    have f234 := f233.keep K145 nin0
    have f235 := f234.keep K146 nin0
    have f236 := f235.keep K206 (ninS (Nat.ne_of_lt (Nat.lt_of_lt_of_le (Nat.lt_of_lt_of_le f24.lt K30.1) ge_d134)) (ninS (Nat.ne_of_lt (Nat.lt_of_lt_of_le (Nat.lt_of_lt_of_le f24.lt K30.1) ge_e134)) (ninS (Nat.ne_of_lt (Nat.lt_of_lt_of_le (Nat.lt_of_lt_of_le f24.lt K30.1) ge_d234)) (ninS (Nat.ne_of_lt (Nat.lt_of_lt_of_le (Nat.lt_of_lt_of_le f24.lt K30.1) ge_e234)) (ninS (Nat.ne_of_lt (Nat.lt_of_lt_of_le (Nat.lt_of_lt_of_le f24.lt K30.1) ge_w34)) nin0)))))
    have f237 := f26.keep K30 nin0
    have f238 := f237.keep K34 (ninS (Nat.ne_of_lt (Nat.lt_of_lt_of_le f24.lt G30)) nin0)
    have f239 := f238.keep K71 nin0
    have f240 := f239.keep K72 nin0
    have f241 := f240.keep K127 (ninS (Nat.ne_of_lt (Nat.lt_of_lt_of_le (Nat.lt_of_lt_of_le f24.lt K30.1) ge_d134)) (ninS (Nat.ne_of_lt (Nat.lt_of_lt_of_le (Nat.lt_of_lt_of_le f24.lt K30.1) ge_e134)) (ninS (Nat.ne_of_lt (Nat.lt_of_lt_of_le (Nat.lt_of_lt_of_le f24.lt K30.1) ge_d234)) (ninS (Nat.ne_of_lt (Nat.lt_of_lt_of_le (Nat.lt_of_lt_of_le f24.lt K30.1) ge_e234)) (ninS (Nat.ne_of_lt (Nat.lt_of_lt_of_le (Nat.lt_of_lt_of_le f24.lt K30.1) ge_w34)) nin0)))))
    have f242 := f241.keep K145 nin0
    have f243 := f242.keep K146 nin0
    have f244 := f243.keep K206 (ninS (Nat.ne_of_lt (Nat.lt_of_lt_of_le (Nat.lt_of_lt_of_le f24.lt K30.1) ge_d134)) (ninS (Nat.ne_of_lt (Nat.lt_of_lt_of_le (Nat.lt_of_lt_of_le f24.lt K30.1) ge_e134)) (ninS (Nat.ne_of_lt (Nat.lt_of_lt_of_le (Nat.lt_of_lt_of_le f24.lt K30.1) ge_d234)) (ninS (Nat.ne_of_lt (Nat.lt_of_lt_of_le (Nat.lt_of_lt_of_le f24.lt K30.1) ge_e234)) (ninS (Nat.ne_of_lt (Nat.lt_of_lt_of_le (Nat.lt_of_lt_of_le f24.lt K30.1) ge_w34)) nin0)))))
    refine own_virt X206 114 (a := b30) (argsL := [(.ref r22)]) (rest := []) at_111 f219 (fun _ hZ => notFace_of_selects (args := #[]) (mvT hZ (ow hw 66 rfl))) (rm7 l Z a0 hw n0 h206 hWd [] X206.old b30 r22 o22 mo22 w34 kw34 y0206 y1206 y2206 f220 f228 f236 f244 f215 f27 f28 (own_bdm f216 (by decide)) (own_bdm f217 (by decide)) (own_bdm f218 (by decide)) ) (ow hw 63 rfl) (ow hw 64 rfl) (ow hw 66 rfl) (ow hw 65 rfl) (ow hw 17 rfl) (ow hw 67 rfl) (by decide) (lenOf pd__28Lcom_2fexample_2fbote_2fbote_2fservice_2fSendQueue_24Kind_3b_29Z rfl) rfl rfl rfl (W := 0) rfl (by decide) (by decide) (by decide) (by decide) all0 rfl ?_
    intro T245 h245 v245 X245 K245 hQ245
    obtain rfl := hQ245
    show OGo _ _ _ _ T245 (mkF m 114 #[.val (.int pa), .val (.int pb), .val (.int pc_), .val (.int pd), .val (.int pi), .val (.int pf), .val (.ref r1), .val (.ref r8), .val (.ref r15), .val (.ref r22), .val (.int 0), .val (.ref b30), .val (.int 0), .val (.int 1), .val (.int 0), .val (.int 1), .unset] [(.int 0)])
    refine og_istore X245 116 #[.val (.int pa), .val (.int pb), .val (.int pc_), .val (.int pd), .val (.int pi), .val (.int pf), .val (.ref r1), .val (.ref r8), .val (.ref r15), .val (.ref r22), .val (.int 0), .val (.ref b30), .val (.int 0), .val (.int 1), .val (.int 0), .val (.int 1), .val (.int 0)] at_114 rfl rfl ?_
    refine og_iload X245 118 at_116 rfl rfl ?_
    refine og_ifN X245 121 at_118 (XT.i0_ne_f (by decide)) rfl ?_
    refine og_iload X245 123 at_121 rfl rfl ?_
    refine og_ifN X245 126 at_123 (XT.i0_eq_f (by decide)) rfl ?_
    refine og_iload X245 128 at_126 rfl rfl ?_
    refine og_ifN X245 131 at_128 (XT.i0_ne_f (by decide)) rfl ?_
    refine og_iload X245 133 at_131 rfl rfl ?_
    refine og_ifN X245 136 at_133 (XT.i0_eq_f (by decide)) rfl ?_
    refine og_iload X245 138 at_136 rfl rfl ?_
    refine og_ifN X245 141 at_138 (XT.i0_ne_f (by decide)) rfl ?_
    refine og_iconst X245 142 (1 : Int32) at_141 rfl rfl ?_
    refine og_goto X245 146 at_142 (by decide) (by decide) ?_
    refine own_retZ X245 at_146 hret rfl (by decide) (by decide) ?_
    exact rfl
  · -- not
    refine og_ifN X22 31 at_28 (XT.i0_eq_f hc29) rfl ?_
    refine og_iconst X22 32 (1 : Int32) at_31 rfl rfl ?_
    refine og_goto X22 36 at_32 (by decide) (by decide) ?_
    refine og_istore X22 38 #[.val (.int pa), .val (.int pb), .val (.int pc_), .val (.int pd), .val (.int pi), .val (.int pf), .val (.ref r1), .val (.ref r8), .val (.ref r15), .val (.ref r22), .val (.int 1), .unset, .unset, .unset, .unset, .unset, .unset] at_36 rfl rfl ?_
    refine own_new X22 41 at_38 (ow hw 15 rfl) (ow hw 16 rfl) (ow hw 17 rfl) (by decide) (by decide) rfl ?_
    intro T246 h246 b246 X246 K246 G246 U246 E246 D246
    have f247 : Fld Z h246 b246 "com/example/bote/bote/service/SendQueue" "items" "Ljava/util/Deque;" .null := D246 (Or.inr (ow hw 42 rfl)) (ty := (.object "java/util/Deque")) (by decide)
    have f248 : Fld Z h246 b246 "com/example/bote/bote/service/SendQueue" "kinds" "Ljava/util/Deque;" .null := D246 (Or.inr (ow hw 44 rfl)) (ty := (.object "java/util/Deque")) (by decide)
    have f249 : Fld Z h246 b246 "com/example/bote/bote/service/SendQueue" "waiting" "[I" .null := D246 (Or.inr (ow hw 62 rfl)) (ty := (.array .int)) (by decide)
    refine og_dup X246 42 at_41 rfl rfl ?_
    refine own_spec X246 45 (a := b246) (argsL := []) (rest := [(.ref b246)]) at_42 rfl (rm2 l Z a0 hw n0 h246 hWd [] X246.old b246 E246 f247 f248 f249 (own_svb X246 (om 0 rfl))) (ow hw 18 rfl) (ow hw 19 rfl) (ow hw 17 rfl) (ow hw 20 rfl) (by decide) (lenOf pd__28_29V rfl) rfl rfl rfl (W := 1) rfl (by decide) (by decide) (by decide) (by decide) (allS (om 0 rfl) all0) rfl ?_
    intro T250 h250 v250 X250 K250 hQ250
    obtain ⟨d1250, e1250, ke1250, d2250, e2250, ke2250, w250, kw250, rfl, ge_d1250, ge_e1250, ge_d2250, ge_e2250, ge_w250, f251, f252, f253, f254, f255, f256, f257, f258, f259, f260, f261, f262, f263, f264, f265, f266, f267, f268, f269, f270⟩ := hQ250
    show OGo _ _ _ _ T250 (mkF m 45 #[.val (.int pa), .val (.int pb), .val (.int pc_), .val (.int pd), .val (.int pi), .val (.int pf), .val (.ref r1), .val (.ref r8), .val (.ref r15), .val (.ref r22), .val (.int 1), .unset, .unset, .unset, .unset, .unset, .unset] [(.ref b246)])
    refine og_astore X250 47 #[.val (.int pa), .val (.int pb), .val (.int pc_), .val (.int pd), .val (.int pi), .val (.int pf), .val (.ref r1), .val (.ref r8), .val (.ref r15), .val (.ref r22), .val (.int 1), .val (.ref b246), .unset, .unset, .unset, .unset, .unset] at_45 rfl rfl rfl ?_
    refine og_aload X250 49 at_47 rfl rfl rfl ?_
    refine og_aload X250 51 at_49 rfl rfl rfl ?_
    have f271 := E246.keep K250
    have f272 := f3.keep K8
    have f273 := f272.keep K15
    have f274 := f273.keep K22
    have f275 := f274.keep K246
    have f276 := f275.keep K250
    have f277 := f4.keep K8 nin0
    have f278 := f277.keep K15 nin0
    have f279 := f278.keep K22 nin0
    have f280 := f279.keep K246 nin0
    have f281 := f280.keep K250 (ninS (Nat.ne_of_lt (Nat.lt_of_lt_of_le (Nat.lt_of_lt_of_le f3.lt (Nat.le_trans (Nat.le_trans K8.1 K15.1) K22.1)) G246)) nin0)
    have f282 := f5.keep K8 nin0
    have f283 := f282.keep K15 nin0
    have f284 := f283.keep K22 nin0
    have f285 := f284.keep K246 nin0
    have f286 := f285.keep K250 (ninS (Nat.ne_of_lt (Nat.lt_of_lt_of_le (Nat.lt_of_lt_of_le f3.lt (Nat.le_trans (Nat.le_trans K8.1 K15.1) K22.1)) G246)) nin0)
    refine own_virt X250 54 (a := b246) (argsL := [(.ref r1)]) (rest := []) at_51 f271 (fun _ hZ => notFace_of_selects (args := #[]) (mvT hZ (ow hw 66 rfl))) (rm7 l Z a0 hw n0 h250 hWd [] X250.old b246 r1 o1 mo1 w250 kw250 (0 : Int32) (0 : Int32) (0 : Int32) f253 f276 f281 f286 f266 f6 f7 (own_bd0 _) (own_bd0 _) (own_bd0 _) ) (ow hw 63 rfl) (ow hw 64 rfl) (ow hw 66 rfl) (ow hw 65 rfl) (ow hw 17 rfl) (ow hw 67 rfl) (by decide) (lenOf pd__28Lcom_2fexample_2fbote_2fbote_2fservice_2fSendQueue_24Kind_3b_29Z rfl) rfl rfl rfl (W := 0) rfl (by decide) (by decide) (by decide) (by decide) all0 rfl ?_
    intro T287 h287 v287 X287 K287 hQ287
    obtain rfl := hQ287
    show OGo _ _ _ _ T287 (mkF m 54 #[.val (.int pa), .val (.int pb), .val (.int pc_), .val (.int pd), .val (.int pi), .val (.int pf), .val (.ref r1), .val (.ref r8), .val (.ref r15), .val (.ref r22), .val (.int 1), .val (.ref b246), .unset, .unset, .unset, .unset, .unset] [(.int 0)])
    refine og_istore X287 56 #[.val (.int pa), .val (.int pb), .val (.int pc_), .val (.int pd), .val (.int pi), .val (.int pf), .val (.ref r1), .val (.ref r8), .val (.ref r15), .val (.ref r22), .val (.int 1), .val (.ref b246), .val (.int 0), .unset, .unset, .unset, .unset] at_54 rfl rfl ?_
    refine og_aload X287 58 at_56 rfl rfl rfl ?_
    refine og_iload X287 60 at_58 rfl rfl ?_
    refine own_stat X287 63 (argsL := [(.int pi)]) (rest := [(.ref b246)]) at_60 (rm9 l Z a0 hw n0 h287 hWd [] X287.old pi  ) (ow hw 79 rfl) (ow hw 80 rfl) (ow hw 81 rfl) (ow hw 82 rfl) (by decide) (lenOf pd__28I_29Ljava_2flang_2fInteger_3b rfl) rfl rfl rfl (W := 1) rfl (by decide) (by decide) (by decide) (by decide) all0 rfl ?_
    intro T288 h288 v288 X288 K288 hQ288
    obtain ⟨r288, rfl, f289⟩ := hQ288
    show OGo _ _ _ _ T288 (mkF m 63 #[.val (.int pa), .val (.int pb), .val (.int pc_), .val (.int pd), .val (.int pi), .val (.int pf), .val (.ref r1), .val (.ref r8), .val (.ref r15), .val (.ref r22), .val (.int 1), .val (.ref b246), .val (.int 0), .unset, .unset, .unset, .unset] [(.ref r288), (.ref b246)])
    refine og_aload X288 65 at_63 rfl rfl rfl ?_
    have f290 := f271.keep K287
    have f291 := f290.keep K288
    have f292 := f251.keep K287 nin0
    have f293 := f292.keep K288 nin0
    have f294 := f252.keep K287 nin0
    have f295 := f294.keep K288 nin0
    have f296 := f253.keep K287 nin0
    have f297 := f296.keep K288 nin0
    have f298 := f254.keep K287
    have f299 := f298.keep K288
    have f300 := f255.keep K287 nin0
    have f301 := f300.keep K288 nin0
    have f302 := f256.keep K287 nin0
    have f303 := f302.keep K288 nin0
    have f304 := f257.keep K287 nin0
    have f305 := f304.keep K288 nin0
    have f306 := f258.keep K287 nin0
    have f307 := f306.keep K288 nin0
    have f308 := f260.keep K287
    have f309 := f308.keep K288
    have f310 := f261.keep K287 nin0
    have f311 := f310.keep K288 nin0
    have f312 := f262.keep K287 nin0
    have f313 := f312.keep K288 nin0
    have f314 := f263.keep K287 nin0
    have f315 := f314.keep K288 nin0
    have f316 := f264.keep K287 nin0
    have f317 := f316.keep K288 nin0
    have f318 := f266.keep K287 nin0
    have f319 := f318.keep K288 nin0
    have f320 := f10.keep K15
    have f321 := f320.keep K22
    have f322 := f321.keep K246
    have f323 := f322.keep K250
    have f324 := f323.keep K287
    have f325 := f324.keep K288
    have f326 := f11.keep K15 nin0
    have f327 := f326.keep K22 nin0
    have f328 := f327.keep K246 nin0
    have f329 := f328.keep K250 (ninS (Nat.ne_of_lt (Nat.lt_of_lt_of_le (Nat.lt_of_lt_of_le f10.lt (Nat.le_trans K15.1 K22.1)) G246)) nin0)
    have f330 := f329.keep K287 nin0
    have f331 := f330.keep K288 nin0
    have f332 := f12.keep K15 nin0
    have f333 := f332.keep K22 nin0
    have f334 := f333.keep K246 nin0
    have f335 := f334.keep K250 (ninS (Nat.ne_of_lt (Nat.lt_of_lt_of_le (Nat.lt_of_lt_of_le f10.lt (Nat.le_trans K15.1 K22.1)) G246)) nin0)
    have f336 := f335.keep K287 nin0
    have f337 := f336.keep K288 nin0
    have X338 := own_svE X288 f299 (by decide) (by decide) (Nat.le_trans (own_n0 X246) ge_d1250) (Nat.le_trans (Nat.le_trans (Nat.le_trans (Nat.le_trans (Nat.le_trans K1.1 K8.1) K15.1) K22.1) K246.1) ge_d1250)
    have X339 := own_svA X338 f307 (by decide) (Nat.le_trans (own_n0 X246) ge_e1250) (Nat.le_trans (Nat.le_trans (Nat.le_trans (Nat.le_trans (Nat.le_trans K1.1 K8.1) K15.1) K22.1) K246.1) ge_e1250)
    have X340 := own_svE X339 f309 (by decide) (by decide) (Nat.le_trans (own_n0 X246) ge_d2250) (Nat.le_trans (Nat.le_trans (Nat.le_trans (Nat.le_trans (Nat.le_trans K1.1 K8.1) K15.1) K22.1) K246.1) ge_d2250)
    have X341 := own_svA X340 f317 (by decide) (Nat.le_trans (own_n0 X246) ge_e2250) (Nat.le_trans (Nat.le_trans (Nat.le_trans (Nat.le_trans (Nat.le_trans K1.1 K8.1) K15.1) K22.1) K246.1) ge_e2250)
    have X342 := own_svA X341 f319 (by decide) (Nat.le_trans (own_n0 X246) ge_w250) (Nat.le_trans (Nat.le_trans (Nat.le_trans (Nat.le_trans (Nat.le_trans K1.1 K8.1) K15.1) K22.1) K246.1) ge_w250)
    refine own_virt X342 68 (a := b246) (argsL := [(.ref r288), (.ref r8)]) (rest := []) at_65 f291 (fun _ hZ => notFace_of_selects (args := #[]) (mvT hZ (ow hw 89 rfl))) (rq_add0 l Z a0 hw n0 h288 hWd [] X342.old b246 r288 r8 o8 mo8 d1250 e1250 ke1250 d2250 e2250 ke2250 w250 kw250 (0 : Int32) (0 : Int32) (0 : Int32) f291 f293 f295 f297 f299 f301 f303 f305 f307 f259 f309 f311 f313 f315 f317 f265 f319 f289 f325 f331 f337 f267 f268 f269 f270 f9 f13 f14 (own_bd0 _) (own_bd0 _) (own_bd0 _) (own_svb X338 (om 0 rfl)) (own_svb X339 (om 0 rfl)) (own_svb X340 (om 0 rfl)) (own_svb X341 (om 0 rfl)) (own_svb X342 (om 0 rfl))) (ow hw 86 rfl) (ow hw 87 rfl) (ow hw 89 rfl) (ow hw 88 rfl) (ow hw 17 rfl) (ow hw 90 rfl) (by decide) (lenOf pd__28Ljava_2flang_2fObject_3bLcom_2fexample_2fbote_2fbote_2fservice_2fSendQueue_24Kind_3b_29Z rfl) rfl rfl rfl (W := 0) rfl (by decide) (by decide) (by decide) (by decide) (allS (om 4 rfl) (allS (om 3 rfl) (allS (om 2 rfl) (allS (om 1 rfl) (allS (om 0 rfl) all0))))) rfl ?_
    intro T343 h343 v343 X343 K343 hQ343
    obtain ⟨y0343, y1343, y2343, rfl, f344, f345, f346, f347, f348, f349, f350, f351, f352, f353, f354, f355⟩ := hQ343
    show OGo _ _ _ _ T343 (mkF m 68 #[.val (.int pa), .val (.int pb), .val (.int pc_), .val (.int pd), .val (.int pi), .val (.int pf), .val (.ref r1), .val (.ref r8), .val (.ref r15), .val (.ref r22), .val (.int 1), .val (.ref b246), .val (.int 0), .unset, .unset, .unset, .unset] [(.int 1)])
    refine og_istore X343 70 #[.val (.int pa), .val (.int pb), .val (.int pc_), .val (.int pd), .val (.int pi), .val (.int pf), .val (.ref r1), .val (.ref r8), .val (.ref r15), .val (.ref r22), .val (.int 1), .val (.ref b246), .val (.int 0), .val (.int 1), .unset, .unset, .unset] at_68 rfl rfl ?_
    refine og_aload X343 72 at_70 rfl rfl rfl ?_
    refine og_aload X343 74 at_72 rfl rfl rfl ?_
    have f356 := f291.keep K343
    have f357 := f297.keep K343 (ninS (Nat.ne_of_lt (Nat.lt_of_lt_of_le U246 ge_d1250)) (ninS (Nat.ne_of_lt (Nat.lt_of_lt_of_le U246 ge_e1250)) (ninS (Nat.ne_of_lt (Nat.lt_of_lt_of_le U246 ge_d2250)) (ninS (Nat.ne_of_lt (Nat.lt_of_lt_of_le U246 ge_e2250)) (ninS (Nat.ne_of_lt (Nat.lt_of_lt_of_le U246 ge_w250)) nin0)))))
    have f358 := f325.keep K343
    have f359 := f331.keep K343 (ninS (Nat.ne_of_lt (Nat.lt_of_lt_of_le (Nat.lt_of_lt_of_le f10.lt (Nat.le_trans (Nat.le_trans K15.1 K22.1) K246.1)) ge_d1250)) (ninS (Nat.ne_of_lt (Nat.lt_of_lt_of_le (Nat.lt_of_lt_of_le f10.lt (Nat.le_trans (Nat.le_trans K15.1 K22.1) K246.1)) ge_e1250)) (ninS (Nat.ne_of_lt (Nat.lt_of_lt_of_le (Nat.lt_of_lt_of_le f10.lt (Nat.le_trans (Nat.le_trans K15.1 K22.1) K246.1)) ge_d2250)) (ninS (Nat.ne_of_lt (Nat.lt_of_lt_of_le (Nat.lt_of_lt_of_le f10.lt (Nat.le_trans (Nat.le_trans K15.1 K22.1) K246.1)) ge_e2250)) (ninS (Nat.ne_of_lt (Nat.lt_of_lt_of_le (Nat.lt_of_lt_of_le f10.lt (Nat.le_trans (Nat.le_trans K15.1 K22.1) K246.1)) ge_w250)) nin0)))))
    have f360 := f337.keep K343 (ninS (Nat.ne_of_lt (Nat.lt_of_lt_of_le (Nat.lt_of_lt_of_le f10.lt (Nat.le_trans (Nat.le_trans K15.1 K22.1) K246.1)) ge_d1250)) (ninS (Nat.ne_of_lt (Nat.lt_of_lt_of_le (Nat.lt_of_lt_of_le f10.lt (Nat.le_trans (Nat.le_trans K15.1 K22.1) K246.1)) ge_e1250)) (ninS (Nat.ne_of_lt (Nat.lt_of_lt_of_le (Nat.lt_of_lt_of_le f10.lt (Nat.le_trans (Nat.le_trans K15.1 K22.1) K246.1)) ge_d2250)) (ninS (Nat.ne_of_lt (Nat.lt_of_lt_of_le (Nat.lt_of_lt_of_le f10.lt (Nat.le_trans (Nat.le_trans K15.1 K22.1) K246.1)) ge_e2250)) (ninS (Nat.ne_of_lt (Nat.lt_of_lt_of_le (Nat.lt_of_lt_of_le f10.lt (Nat.le_trans (Nat.le_trans K15.1 K22.1) K246.1)) ge_w250)) nin0)))))
    refine own_virt X343 77 (a := b246) (argsL := [(.ref r8)]) (rest := []) at_74 f356 (fun _ hZ => notFace_of_selects (args := #[]) (mvT hZ (ow hw 66 rfl))) (rm7 l Z a0 hw n0 h343 hWd [] X343.old b246 r8 o8 mo8 w250 kw250 y0343 y1343 y2343 f357 f358 f359 f360 f352 f13 f14 (own_bdm f353 (by decide)) (own_bdm f354 (by decide)) (own_bdm f355 (by decide)) ) (ow hw 63 rfl) (ow hw 64 rfl) (ow hw 66 rfl) (ow hw 65 rfl) (ow hw 17 rfl) (ow hw 67 rfl) (by decide) (lenOf pd__28Lcom_2fexample_2fbote_2fbote_2fservice_2fSendQueue_24Kind_3b_29Z rfl) rfl rfl rfl (W := 0) rfl (by decide) (by decide) (by decide) (by decide) all0 rfl ?_
    intro T361 h361 v361 X361 K361 hQ361
    obtain rfl := hQ361
    show OGo _ _ _ _ T361 (mkF m 77 #[.val (.int pa), .val (.int pb), .val (.int pc_), .val (.int pd), .val (.int pi), .val (.int pf), .val (.ref r1), .val (.ref r8), .val (.ref r15), .val (.ref r22), .val (.int 1), .val (.ref b246), .val (.int 0), .val (.int 1), .unset, .unset, .unset] [(.int 0)])
    refine og_istore X361 79 #[.val (.int pa), .val (.int pb), .val (.int pc_), .val (.int pd), .val (.int pi), .val (.int pf), .val (.ref r1), .val (.ref r8), .val (.ref r15), .val (.ref r22), .val (.int 1), .val (.ref b246), .val (.int 0), .val (.int 1), .val (.int 0), .unset, .unset] at_77 rfl rfl ?_
    refine og_aload X361 81 at_79 rfl rfl rfl ?_
    refine og_iload X361 83 at_81 rfl rfl ?_
    refine og_iload X361 85 at_83 rfl rfl ?_
    refine og_ixor X361 86 at_85 rfl ?_
    refine own_stat X361 89 (argsL := [(.int (pi ^^^ pf))]) (rest := [(.ref b246)]) at_86 (rm9 l Z a0 hw n0 h361 hWd [] X361.old (pi ^^^ pf)  ) (ow hw 79 rfl) (ow hw 80 rfl) (ow hw 81 rfl) (ow hw 82 rfl) (by decide) (lenOf pd__28I_29Ljava_2flang_2fInteger_3b rfl) rfl rfl rfl (W := 1) rfl (by decide) (by decide) (by decide) (by decide) all0 rfl ?_
    intro T362 h362 v362 X362 K362 hQ362
    obtain ⟨r362, rfl, f363⟩ := hQ362
    show OGo _ _ _ _ T362 (mkF m 89 #[.val (.int pa), .val (.int pb), .val (.int pc_), .val (.int pd), .val (.int pi), .val (.int pf), .val (.ref r1), .val (.ref r8), .val (.ref r15), .val (.ref r22), .val (.int 1), .val (.ref b246), .val (.int 0), .val (.int 1), .val (.int 0), .unset, .unset] [(.ref r362), (.ref b246)])
    refine og_aload X362 91 at_89 rfl rfl rfl ?_
    have f364 := f356.keep K361
    have f365 := f364.keep K362
    have f366 := f293.keep K343 (ninS (Nat.ne_of_lt (Nat.lt_of_lt_of_le U246 ge_d1250)) (ninS (Nat.ne_of_lt (Nat.lt_of_lt_of_le U246 ge_e1250)) (ninS (Nat.ne_of_lt (Nat.lt_of_lt_of_le U246 ge_d2250)) (ninS (Nat.ne_of_lt (Nat.lt_of_lt_of_le U246 ge_e2250)) (ninS (Nat.ne_of_lt (Nat.lt_of_lt_of_le U246 ge_w250)) nin0)))))
    have f367 := f366.keep K361 nin0
    have f368 := f367.keep K362 nin0
    have f369 := f295.keep K343 (ninS (Nat.ne_of_lt (Nat.lt_of_lt_of_le U246 ge_d1250)) (ninS (Nat.ne_of_lt (Nat.lt_of_lt_of_le U246 ge_e1250)) (ninS (Nat.ne_of_lt (Nat.lt_of_lt_of_le U246 ge_d2250)) (ninS (Nat.ne_of_lt (Nat.lt_of_lt_of_le U246 ge_e2250)) (ninS (Nat.ne_of_lt (Nat.lt_of_lt_of_le U246 ge_w250)) nin0)))))
    have f370 := f369.keep K361 nin0
    have f371 := f370.keep K362 nin0
    have f372 := f357.keep K361 nin0
    have f373 := f372.keep K362 nin0
    have f374 := f299.keep K343
    have f375 := f374.keep K361
    have f376 := f375.keep K362
    have f377 := f344.keep K361 nin0
    have f378 := f377.keep K362 nin0
    have f379 := f345.keep K361 nin0
    have f380 := f379.keep K362 nin0
    have f381 := f346.keep K361 nin0
    have f382 := f381.keep K362 nin0
    have f383 := f347.keep K361 nin0
    have f384 := f383.keep K362 nin0
    have f385 := f309.keep K343
    have f386 := f385.keep K361
    have f387 := f386.keep K362
    have f388 := f348.keep K361 nin0
    have f389 := f388.keep K362 nin0
    have f390 := f349.keep K361 nin0
    have f391 := f390.keep K362 nin0
    have f392 := f350.keep K361 nin0
    have f393 := f392.keep K362 nin0
    have f394 := f351.keep K361 nin0
    have f395 := f394.keep K362 nin0
    have f396 := f352.keep K361 nin0
    have f397 := f396.keep K362 nin0
    have f398 := f17.keep K22
    have f399 := f398.keep K246
    have f400 := f399.keep K250
    have f401 := f400.keep K287
    have f402 := f401.keep K288
    have f403 := f402.keep K343
    have f404 := f403.keep K361
    have f405 := f404.keep K362
    have f406 := f18.keep K22 nin0
    have f407 := f406.keep K246 nin0
    have f408 := f407.keep K250 (ninS (Nat.ne_of_lt (Nat.lt_of_lt_of_le (Nat.lt_of_lt_of_le f17.lt K22.1) G246)) nin0)
    have f409 := f408.keep K287 nin0
    have f410 := f409.keep K288 nin0
    have f411 := f410.keep K343 (ninS (Nat.ne_of_lt (Nat.lt_of_lt_of_le (Nat.lt_of_lt_of_le f17.lt (Nat.le_trans K22.1 K246.1)) ge_d1250)) (ninS (Nat.ne_of_lt (Nat.lt_of_lt_of_le (Nat.lt_of_lt_of_le f17.lt (Nat.le_trans K22.1 K246.1)) ge_e1250)) (ninS (Nat.ne_of_lt (Nat.lt_of_lt_of_le (Nat.lt_of_lt_of_le f17.lt (Nat.le_trans K22.1 K246.1)) ge_d2250)) (ninS (Nat.ne_of_lt (Nat.lt_of_lt_of_le (Nat.lt_of_lt_of_le f17.lt (Nat.le_trans K22.1 K246.1)) ge_e2250)) (ninS (Nat.ne_of_lt (Nat.lt_of_lt_of_le (Nat.lt_of_lt_of_le f17.lt (Nat.le_trans K22.1 K246.1)) ge_w250)) nin0)))))
    have f412 := f411.keep K361 nin0
    have f413 := f412.keep K362 nin0
    have f414 := f19.keep K22 nin0
    have f415 := f414.keep K246 nin0
    have f416 := f415.keep K250 (ninS (Nat.ne_of_lt (Nat.lt_of_lt_of_le (Nat.lt_of_lt_of_le f17.lt K22.1) G246)) nin0)
    have f417 := f416.keep K287 nin0
    have f418 := f417.keep K288 nin0
    have f419 := f418.keep K343 (ninS (Nat.ne_of_lt (Nat.lt_of_lt_of_le (Nat.lt_of_lt_of_le f17.lt (Nat.le_trans K22.1 K246.1)) ge_d1250)) (ninS (Nat.ne_of_lt (Nat.lt_of_lt_of_le (Nat.lt_of_lt_of_le f17.lt (Nat.le_trans K22.1 K246.1)) ge_e1250)) (ninS (Nat.ne_of_lt (Nat.lt_of_lt_of_le (Nat.lt_of_lt_of_le f17.lt (Nat.le_trans K22.1 K246.1)) ge_d2250)) (ninS (Nat.ne_of_lt (Nat.lt_of_lt_of_le (Nat.lt_of_lt_of_le f17.lt (Nat.le_trans K22.1 K246.1)) ge_e2250)) (ninS (Nat.ne_of_lt (Nat.lt_of_lt_of_le (Nat.lt_of_lt_of_le f17.lt (Nat.le_trans K22.1 K246.1)) ge_w250)) nin0)))))
    have f420 := f419.keep K361 nin0
    have f421 := f420.keep K362 nin0
    refine own_virt X362 94 (a := b246) (argsL := [(.ref r362), (.ref r15)]) (rest := []) at_91 f365 (fun _ hZ => notFace_of_selects (args := #[]) (mvT hZ (ow hw 89 rfl))) (rq_add1 l Z a0 hw n0 h362 hWd [] X362.old b246 r362 r15 o15 mo15 d1250 e1250 ke1250 d2250 e2250 ke2250 w250 kw250 y0343 y1343 y2343 r288 r8 f365 f368 f371 f373 f376 f378 f380 f382 f384 f259 f387 f389 f391 f393 f395 f265 f397 f363 f405 f413 f421 f267 f268 f269 f270 f16 f20 f21 f353 f354 f355 (own_svb X362 (om 4 rfl)) (own_svb X362 (om 3 rfl)) (own_svb X362 (om 2 rfl)) (own_svb X362 (om 1 rfl)) (own_svb X362 (om 0 rfl))) (ow hw 86 rfl) (ow hw 87 rfl) (ow hw 89 rfl) (ow hw 88 rfl) (ow hw 17 rfl) (ow hw 90 rfl) (by decide) (lenOf pd__28Ljava_2flang_2fObject_3bLcom_2fexample_2fbote_2fbote_2fservice_2fSendQueue_24Kind_3b_29Z rfl) rfl rfl rfl (W := 0) rfl (by decide) (by decide) (by decide) (by decide) (allS (om 4 rfl) (allS (om 3 rfl) (allS (om 2 rfl) (allS (om 1 rfl) (allS (om 0 rfl) all0))))) rfl ?_
    intro T422 h422 v422 X422 K422 hQ422
    obtain ⟨y0422, y1422, y2422, rfl, f423, f424, f425, f426, f427, f428, f429, f430, f431, f432, f433, f434⟩ := hQ422
    show OGo _ _ _ _ T422 (mkF m 94 #[.val (.int pa), .val (.int pb), .val (.int pc_), .val (.int pd), .val (.int pi), .val (.int pf), .val (.ref r1), .val (.ref r8), .val (.ref r15), .val (.ref r22), .val (.int 1), .val (.ref b246), .val (.int 0), .val (.int 1), .val (.int 0), .unset, .unset] [(.int 1)])
    refine og_istore X422 96 #[.val (.int pa), .val (.int pb), .val (.int pc_), .val (.int pd), .val (.int pi), .val (.int pf), .val (.ref r1), .val (.ref r8), .val (.ref r15), .val (.ref r22), .val (.int 1), .val (.ref b246), .val (.int 0), .val (.int 1), .val (.int 0), .val (.int 1), .unset] at_94 rfl rfl ?_
    refine og_iload X422 98 at_96 rfl rfl ?_
    refine og_ifN X422 101 at_98 (XT.i0_eq_f (by decide)) rfl ?_
    refine og_aload X422 103 at_101 rfl rfl rfl ?_
    have f435 := f365.keep K422
    have f436 := f368.keep K422 (ninS (Nat.ne_of_lt (Nat.lt_of_lt_of_le U246 ge_d1250)) (ninS (Nat.ne_of_lt (Nat.lt_of_lt_of_le U246 ge_e1250)) (ninS (Nat.ne_of_lt (Nat.lt_of_lt_of_le U246 ge_d2250)) (ninS (Nat.ne_of_lt (Nat.lt_of_lt_of_le U246 ge_e2250)) (ninS (Nat.ne_of_lt (Nat.lt_of_lt_of_le U246 ge_w250)) nin0)))))
    have f437 := f371.keep K422 (ninS (Nat.ne_of_lt (Nat.lt_of_lt_of_le U246 ge_d1250)) (ninS (Nat.ne_of_lt (Nat.lt_of_lt_of_le U246 ge_e1250)) (ninS (Nat.ne_of_lt (Nat.lt_of_lt_of_le U246 ge_d2250)) (ninS (Nat.ne_of_lt (Nat.lt_of_lt_of_le U246 ge_e2250)) (ninS (Nat.ne_of_lt (Nat.lt_of_lt_of_le U246 ge_w250)) nin0)))))
    have f438 := f373.keep K422 (ninS (Nat.ne_of_lt (Nat.lt_of_lt_of_le U246 ge_d1250)) (ninS (Nat.ne_of_lt (Nat.lt_of_lt_of_le U246 ge_e1250)) (ninS (Nat.ne_of_lt (Nat.lt_of_lt_of_le U246 ge_d2250)) (ninS (Nat.ne_of_lt (Nat.lt_of_lt_of_le U246 ge_e2250)) (ninS (Nat.ne_of_lt (Nat.lt_of_lt_of_le U246 ge_w250)) nin0)))))
    have f439 := f376.keep K422
    have f440 := f387.keep K422
    have f441 := f358.keep K361
    have f442 := f441.keep K362
    have f443 := f442.keep K422
    have f444 := f359.keep K361 nin0
    have f445 := f444.keep K362 nin0
    have f446 := f445.keep K422 (ninS (Nat.ne_of_lt (Nat.lt_of_lt_of_le (Nat.lt_of_lt_of_le f10.lt (Nat.le_trans (Nat.le_trans K15.1 K22.1) K246.1)) ge_d1250)) (ninS (Nat.ne_of_lt (Nat.lt_of_lt_of_le (Nat.lt_of_lt_of_le f10.lt (Nat.le_trans (Nat.le_trans K15.1 K22.1) K246.1)) ge_e1250)) (ninS (Nat.ne_of_lt (Nat.lt_of_lt_of_le (Nat.lt_of_lt_of_le f10.lt (Nat.le_trans (Nat.le_trans K15.1 K22.1) K246.1)) ge_d2250)) (ninS (Nat.ne_of_lt (Nat.lt_of_lt_of_le (Nat.lt_of_lt_of_le f10.lt (Nat.le_trans (Nat.le_trans K15.1 K22.1) K246.1)) ge_e2250)) (ninS (Nat.ne_of_lt (Nat.lt_of_lt_of_le (Nat.lt_of_lt_of_le f10.lt (Nat.le_trans (Nat.le_trans K15.1 K22.1) K246.1)) ge_w250)) nin0)))))
    refine own_virt X422 106 (a := b246) (argsL := []) (rest := []) at_103 f435 (fun _ hZ => notFace_of_selects (args := #[]) (mvT hZ (ow hw 118 rfl))) (rm14 l Z a0 hw n0 h422 hWd [] X422.old b246 r8 o8 d1250 e1250 ke1250 d2250 e2250 ke2250 w250 kw250 y0422 y1422 y2422 r288 r362 r15 f435 f436 f437 f438 f439 f423 f424 f425 f426 f259 f440 f427 f428 f429 f430 f265 f431 f443 f446 f267 f268 f269 f270 f9 f13 f432 f433 f434 (own_svb X422 (om 4 rfl)) (own_svb X422 (om 3 rfl)) (own_svb X422 (om 2 rfl)) (own_svb X422 (om 1 rfl)) (own_svb X422 (om 0 rfl))) (ow hw 115 rfl) (ow hw 116 rfl) (ow hw 118 rfl) (ow hw 117 rfl) (ow hw 17 rfl) (ow hw 119 rfl) (by decide) (lenOf pd__28_29Ljava_2flang_2fObject_3b rfl) rfl rfl rfl (W := 0) rfl (by decide) (by decide) (by decide) (by decide) (allS (om 4 rfl) (allS (om 3 rfl) (allS (om 2 rfl) (allS (om 1 rfl) (allS (om 0 rfl) all0))))) rfl ?_
    intro T447 h447 v447 X447 K447 hQ447
    obtain ⟨y0447, y1447, y2447, rfl, f448, f449, f450, f451⟩ := hQ447
    show OGo _ _ _ _ T447 (mkF m 106 #[.val (.int pa), .val (.int pb), .val (.int pc_), .val (.int pd), .val (.int pi), .val (.int pf), .val (.ref r1), .val (.ref r8), .val (.ref r15), .val (.ref r22), .val (.int 1), .val (.ref b246), .val (.int 0), .val (.int 1), .val (.int 0), .val (.int 1), .unset] [(.ref r288)])
    refine og_pop X447 107 at_106 rfl rfl ?_
    refine og_aload X447 109 at_107 rfl rfl rfl ?_
    refine og_aload X447 111 at_109 rfl rfl rfl ?_
    have f452 := f435.keep K447
    have f453 := f438.keep K447 (ninS (Nat.ne_of_lt (Nat.lt_of_lt_of_le U246 ge_d1250)) (ninS (Nat.ne_of_lt (Nat.lt_of_lt_of_le U246 ge_e1250)) (ninS (Nat.ne_of_lt (Nat.lt_of_lt_of_le U246 ge_d2250)) (ninS (Nat.ne_of_lt (Nat.lt_of_lt_of_le U246 ge_e2250)) (ninS (Nat.ne_of_lt (Nat.lt_of_lt_of_le U246 ge_w250)) nin0)))))
    have f454 := f24.keep K246
    have f455 := f454.keep K250
    have f456 := f455.keep K287
    have f457 := f456.keep K288
    have f458 := f457.keep K343
    have f459 := f458.keep K361
    have f460 := f459.keep K362
    have f461 := f460.keep K422
    have f462 := f461.keep K447
    have f463 := f25.keep K246 nin0
    have f464 := f463.keep K250 (ninS (Nat.ne_of_lt (Nat.lt_of_lt_of_le f24.lt G246)) nin0)
    have f465 := f464.keep K287 nin0
    have f466 := f465.keep K288 nin0
    have f467 := f466.keep K343 (ninS (Nat.ne_of_lt (Nat.lt_of_lt_of_le (Nat.lt_of_lt_of_le f24.lt K246.1) ge_d1250)) (ninS (Nat.ne_of_lt (Nat.lt_of_lt_of_le (Nat.lt_of_lt_of_le f24.lt K246.1) ge_e1250)) (ninS (Nat.ne_of_lt (Nat.lt_of_lt_of_le (Nat.lt_of_lt_of_le f24.lt K246.1) ge_d2250)) (ninS (Nat.ne_of_lt (Nat.lt_of_lt_of_le (Nat.lt_of_lt_of_le f24.lt K246.1) ge_e2250)) (ninS (Nat.ne_of_lt (Nat.lt_of_lt_of_le (Nat.lt_of_lt_of_le f24.lt K246.1) ge_w250)) nin0)))))
    have f468 := f467.keep K361 nin0
    have f469 := f468.keep K362 nin0
    have f470 := f469.keep K422 (ninS (Nat.ne_of_lt (Nat.lt_of_lt_of_le (Nat.lt_of_lt_of_le f24.lt K246.1) ge_d1250)) (ninS (Nat.ne_of_lt (Nat.lt_of_lt_of_le (Nat.lt_of_lt_of_le f24.lt K246.1) ge_e1250)) (ninS (Nat.ne_of_lt (Nat.lt_of_lt_of_le (Nat.lt_of_lt_of_le f24.lt K246.1) ge_d2250)) (ninS (Nat.ne_of_lt (Nat.lt_of_lt_of_le (Nat.lt_of_lt_of_le f24.lt K246.1) ge_e2250)) (ninS (Nat.ne_of_lt (Nat.lt_of_lt_of_le (Nat.lt_of_lt_of_le f24.lt K246.1) ge_w250)) nin0)))))
    have f471 := f470.keep K447 (ninS (Nat.ne_of_lt (Nat.lt_of_lt_of_le (Nat.lt_of_lt_of_le f24.lt K246.1) ge_d1250)) (ninS (Nat.ne_of_lt (Nat.lt_of_lt_of_le (Nat.lt_of_lt_of_le f24.lt K246.1) ge_e1250)) (ninS (Nat.ne_of_lt (Nat.lt_of_lt_of_le (Nat.lt_of_lt_of_le f24.lt K246.1) ge_d2250)) (ninS (Nat.ne_of_lt (Nat.lt_of_lt_of_le (Nat.lt_of_lt_of_le f24.lt K246.1) ge_e2250)) (ninS (Nat.ne_of_lt (Nat.lt_of_lt_of_le (Nat.lt_of_lt_of_le f24.lt K246.1) ge_w250)) nin0)))))
    have f472 := f26.keep K246 nin0
    have f473 := f472.keep K250 (ninS (Nat.ne_of_lt (Nat.lt_of_lt_of_le f24.lt G246)) nin0)
    have f474 := f473.keep K287 nin0
    have f475 := f474.keep K288 nin0
    have f476 := f475.keep K343 (ninS (Nat.ne_of_lt (Nat.lt_of_lt_of_le (Nat.lt_of_lt_of_le f24.lt K246.1) ge_d1250)) (ninS (Nat.ne_of_lt (Nat.lt_of_lt_of_le (Nat.lt_of_lt_of_le f24.lt K246.1) ge_e1250)) (ninS (Nat.ne_of_lt (Nat.lt_of_lt_of_le (Nat.lt_of_lt_of_le f24.lt K246.1) ge_d2250)) (ninS (Nat.ne_of_lt (Nat.lt_of_lt_of_le (Nat.lt_of_lt_of_le f24.lt K246.1) ge_e2250)) (ninS (Nat.ne_of_lt (Nat.lt_of_lt_of_le (Nat.lt_of_lt_of_le f24.lt K246.1) ge_w250)) nin0)))))
    have f477 := f476.keep K361 nin0
    have f478 := f477.keep K362 nin0
    have f479 := f478.keep K422 (ninS (Nat.ne_of_lt (Nat.lt_of_lt_of_le (Nat.lt_of_lt_of_le f24.lt K246.1) ge_d1250)) (ninS (Nat.ne_of_lt (Nat.lt_of_lt_of_le (Nat.lt_of_lt_of_le f24.lt K246.1) ge_e1250)) (ninS (Nat.ne_of_lt (Nat.lt_of_lt_of_le (Nat.lt_of_lt_of_le f24.lt K246.1) ge_d2250)) (ninS (Nat.ne_of_lt (Nat.lt_of_lt_of_le (Nat.lt_of_lt_of_le f24.lt K246.1) ge_e2250)) (ninS (Nat.ne_of_lt (Nat.lt_of_lt_of_le (Nat.lt_of_lt_of_le f24.lt K246.1) ge_w250)) nin0)))))
    have f480 := f479.keep K447 (ninS (Nat.ne_of_lt (Nat.lt_of_lt_of_le (Nat.lt_of_lt_of_le f24.lt K246.1) ge_d1250)) (ninS (Nat.ne_of_lt (Nat.lt_of_lt_of_le (Nat.lt_of_lt_of_le f24.lt K246.1) ge_e1250)) (ninS (Nat.ne_of_lt (Nat.lt_of_lt_of_le (Nat.lt_of_lt_of_le f24.lt K246.1) ge_d2250)) (ninS (Nat.ne_of_lt (Nat.lt_of_lt_of_le (Nat.lt_of_lt_of_le f24.lt K246.1) ge_e2250)) (ninS (Nat.ne_of_lt (Nat.lt_of_lt_of_le (Nat.lt_of_lt_of_le f24.lt K246.1) ge_w250)) nin0)))))
    refine own_virt X447 114 (a := b246) (argsL := [(.ref r22)]) (rest := []) at_111 f452 (fun _ hZ => notFace_of_selects (args := #[]) (mvT hZ (ow hw 66 rfl))) (rm7 l Z a0 hw n0 h447 hWd [] X447.old b246 r22 o22 mo22 w250 kw250 y0447 y1447 y2447 f453 f462 f471 f480 f448 f27 f28 f449 f450 f451 ) (ow hw 63 rfl) (ow hw 64 rfl) (ow hw 66 rfl) (ow hw 65 rfl) (ow hw 17 rfl) (ow hw 67 rfl) (by decide) (lenOf pd__28Lcom_2fexample_2fbote_2fbote_2fservice_2fSendQueue_24Kind_3b_29Z rfl) rfl rfl rfl (W := 0) rfl (by decide) (by decide) (by decide) (by decide) all0 rfl ?_
    intro T481 h481 v481 X481 K481 hQ481
    obtain rfl := hQ481
    show OGo _ _ _ _ T481 (mkF m 114 #[.val (.int pa), .val (.int pb), .val (.int pc_), .val (.int pd), .val (.int pi), .val (.int pf), .val (.ref r1), .val (.ref r8), .val (.ref r15), .val (.ref r22), .val (.int 1), .val (.ref b246), .val (.int 0), .val (.int 1), .val (.int 0), .val (.int 1), .unset] [(.int 0)])
    refine og_istore X481 116 #[.val (.int pa), .val (.int pb), .val (.int pc_), .val (.int pd), .val (.int pi), .val (.int pf), .val (.ref r1), .val (.ref r8), .val (.ref r15), .val (.ref r22), .val (.int 1), .val (.ref b246), .val (.int 0), .val (.int 1), .val (.int 0), .val (.int 1), .val (.int 0)] at_114 rfl rfl ?_
    refine og_iload X481 118 at_116 rfl rfl ?_
    refine og_ifN X481 121 at_118 (XT.i0_ne_f (by decide)) rfl ?_
    refine og_iload X481 123 at_121 rfl rfl ?_
    refine og_ifN X481 126 at_123 (XT.i0_eq_f (by decide)) rfl ?_
    refine og_iload X481 128 at_126 rfl rfl ?_
    refine og_ifN X481 131 at_128 (XT.i0_ne_f (by decide)) rfl ?_
    refine og_iload X481 133 at_131 rfl rfl ?_
    refine og_ifN X481 136 at_133 (XT.i0_eq_f (by decide)) rfl ?_
    refine og_iload X481 138 at_136 rfl rfl ?_
    refine og_ifN X481 141 at_138 (XT.i0_ne_f (by decide)) rfl ?_
    refine og_iconst X481 142 (1 : Int32) at_141 rfl rfl ?_
    refine og_goto X481 146 at_142 (by decide) (by decide) ?_
    refine own_retZ X481 at_146 hret rfl (by decide) (by decide) ?_
    exact rfl
set_option maxRecDepth 65536 in
set_option maxHeartbeats 40000000 in
theorem comes_1 {Post : Tables → Env → Array Value → State → Outcome → State → Prop} (hpost : ∀ tb e args s v u, (limb_1_1.after args s (.returned v) u = true ∧ limb_1_2.after args s (.returned v) u = true ∧ True) → FrameEnd s (.returned v) u (Jvm.fieldLocs frame_1_writes args s ++ Jvm.arrayLocs frame_1_arrays args s ++ Jvm.staticLocs frame_1_statics s) 40 192 → Post tb e args s (.returned v) u) :
    ArmFor flags0 classFile x code maxLocals ret World_1 tables_1 room_1 Calls_1 rest_1 Pre_1 Post := by
  intro l hfl _ _ p e ha hc hk s m args below hf hA hF happ hP
  obtain ⟨hcalls, hrest, hpre⟩ := hP
  obtain ⟨-, -, -, hnamed, -, -, -, hat⟩ := (Spec.applies_iff hf).mp happ
  obtain ⟨hg, hn⟩ := and_e (Cond.before_iff.mp (show (Jvm.Cond.and given_1 narrow_1).before args s = true from hpre))
  obtain ⟨hcount, g0⟩ := and_e hg
  obtain ⟨i0, g1⟩ := and_e g0
  obtain ⟨i1, g2⟩ := and_e g1
  obtain ⟨i2, g3⟩ := and_e g2
  obtain ⟨i3, g4⟩ := and_e g3
  obtain ⟨i4, g5⟩ := and_e g4
  have i5 := g5
  obtain ⟨w0, w1, w2, w3, w4, w5, rfl⟩ : ∃ w0 w1 w2 w3 w4 w5 : Value, args = #[w0, w1, w2, w3, w4, w5] := by
    have hs : args.size = 6 := by simpa [Cond.value, given_1] using hcount
    obtain ⟨L⟩ := args
    match L, hs with
    | [w0, w1, w2, w3, w4, w5], _ => exact ⟨w0, w1, w2, w3, w4, w5, rfl⟩
  have hw := fun d (hd : d ∈ tables_1) => atoms_spec (ws := Jvm.Cond.code x code maxLocals ret :: tables_1) hat d (List.mem_cons_of_mem _ hd)
  obtain ⟨hsets, hown0⟩ := atoms_of _ (rest_1_c_eq ▸ (show rest_1_c.before _ s = true from hrest))
  obtain ⟨x0, e0⟩ := is_v i0
  obtain rfl : w0 = (.int x0) := Option.some.inj e0
  obtain ⟨x1, e1⟩ := is_v i1
  obtain rfl : w1 = (.int x1) := Option.some.inj e1
  obtain ⟨x2, e2⟩ := is_v i2
  obtain rfl : w2 = (.int x2) := Option.some.inj e2
  obtain ⟨x3, e3⟩ := is_v i3
  obtain rfl : w3 = (.int x3) := Option.some.inj e3
  obtain ⟨x4, e4⟩ := is_v i4
  obtain rfl : w4 = (.int x4) := Option.some.inj e4
  obtain ⟨x5, e5⟩ := is_v i5
  obtain rfl : w5 = (.int x5) := Option.some.inj e5
  have hfit : Fit s := fun {y c} hc i hi => by
    obtain ⟨ha, rfl⟩ := Array.getElem?_eq_some_iff.mp hc
    have q := List.all_eq_true.mp ((Array.all_eq_true_iff_forall_mem.mp hF) _ (Array.getElem_mem ha)) i (List.mem_range.mpr hi)
    simpa [Array.getElem?_eq_getElem hi] using q
  have hEL : EW s #[(.int x0), (.int x1), (.int x2), (.int x3), (.int x4), (.int x5)] own_EL := EW.nil
  obtain ⟨nr0, nx0⟩ := and_e hn
  obtain ⟨nr1, nx1⟩ := and_e nx0
  obtain ⟨nr2, nx2⟩ := and_e nx1
  obtain ⟨nr3, nx3⟩ := and_e nx2
  obtain ⟨nr4, nx4⟩ := and_e nx3
  obtain ⟨nr5, nx5⟩ := and_e nx4
  obtain ⟨nr6, nx6⟩ := and_e nx5
  obtain ⟨nr7, nx7⟩ := and_e nx6
  obtain ⟨nr8, nx8⟩ := and_e nx7
  obtain ⟨nr9, nx9⟩ := and_e nx8
  obtain ⟨nr10, nx10⟩ := and_e nx9
  obtain ⟨nr11, nx11⟩ := and_e nx10
  obtain ⟨nr12, nx12⟩ := and_e nx11
  obtain ⟨nr13, nx13⟩ := and_e nx12
  have nr14 := nx13
  have hWd : OWorld s #[(.int x0), (.int x1), (.int x2), (.int x3), (.int x4), (.int x5)] := ⟨hEL, Sta.start (Cond.eq_int (hsets _ (om 3 rfl)) rfl) (Or.inl (hsets _ (om 1 rfl))), own_boxes (hsets _ (om 5 rfl)) (hsets _ (om 4 rfl)) (hsets _ (om 6 rfl)) (by decide) (hsets _ (om 7 rfl)) (Or.inr ⟨(ow hw 84 rfl), (hsets _ (om 2 rfl))⟩) (fun _ _ => own_boxI), own_enum nr0 nr9 nr10 (Or.inr ⟨(ow hw 7 rfl), (ow hw 8 rfl)⟩), own_enum nr1 nr13 nr14 (Or.inr ⟨(ow hw 7 rfl), (ow hw 11 rfl)⟩), own_enum nr2 nr11 nr12 (Or.inr ⟨(ow hw 7 rfl), (ow hw 13 rfl)⟩), own_values hfit nr4 nr3 nr5 (by decide) (Or.inl (ow hw 57 rfl))⟩
  have hCH : CHv s own_EL s.vm s.heap := fun p hp => by cases hp
  obtain ⟨n, o, h1, h2, h3, v, L, rfl, ⟨N, -, hQ⟩, -, hqW, hqN⟩ := rm0 l s _ hw s.heap.size s.heap hWd tables_1 (Old.start s) x0 x1 x2 x3 x4 x5 p e ha hc hk s m _ below hf ((Spec.applies_iff_loose hf).mp happ).1 ⟨rfl, State.Warmed39.refl s, rfl, hCH, fun _ q => nomatch q⟩ trivial
  obtain rfl := hQ
  have hq := hqN rfl
  refine ⟨n, _, h1, h2, h3, hpost _ _ _ _ _ _ ⟨Cond.after_iff.mpr rfl, Cond.after_iff.mpr (eq_i res_at (Term.int_eval (1)) rfl), trivial⟩ ⟨hq.1, hq.2.1, (hq.2.2.sift fun y hy => Or.inr (N y hy)).mono (by decide) (by decide)⟩⟩
theorem main_1_1 : Claimed_1_1 := comes_1 fun _ _ _ _ _ _ h hF => ⟨h.1, hF⟩
theorem main_1_2 : Claimed_1_2 := comes_1 fun _ _ _ _ _ _ h hF => ⟨h.2.1, hF⟩
end Jvm.Pilot.@@N@@
namespace Jvm.Pilot.@@N@@
open Jvm Jvm.ClassFile Sem Op Lib Jvm.Free Jvm.Stand Jvm.Pilot.@@N@@.Jvm.D
/-! MADE BY PROGRAM (witnessworld.py) out of the Statement's table words and the real class files: 27 classes; the members and pool entries that the words name. The judged class is class 1, her method 2. -/
namespace start1
open Jvm.ClassFile
def u (s : String) : CpInfo := .utf8 (stringToUtf16 s)
/-- a pool by its gaps: so many unusable entries, then the entry; so many at the end -/
def gap : Nat → List CpInfo → List CpInfo
  | 0, r => r
  | n + 1, r => .unusable :: gap n r
def poolList (es : List (Nat × CpInfo)) (last : Nat) : List CpInfo := es.foldr (fun e r => gap e.1 (e.2 :: r)) (gap last [])
def pool (es : List (Nat × CpInfo)) (last : Nat) : Array CpInfo := ⟨poolList es last⟩
def fileOf (pool : Array CpInfo) (this : Nat) (attrs : Array Attribute := #[]) (ms : Array MethodInfo := #[]) (fl : Nat := 33) (sup : Nat := 0) (ifs : Array Nat := #[]) (fds : Array FieldInfo := #[]) : ClassFile where
  minorVersion := 0
  majorVersion := 65
  constantPool := pool
  accessFlags := fl
  thisClass := this
  superClass := sup
  interfaces := ifs
  fields := fds
  methods := ms
  attributes := attrs
def plain (name : String) (sup : Option ClassId) : Class where
  name := name
  kind := .ordinary
  loader := none
  accessFlags := 33
  super := sup
  interfaces := #[]
  cf := none
  fields := #[]
  methods := #[]
  instanceTypes := #[]
  staticTypes := #[]
  resolved := #[]
  callSites := []
  init := .initialized
  statics := none
  mirror := none

def pool0 : Array CpInfo := pool [(5, u "<init>"), (0, u "()V"), (1, .class_ 10), (1, u "java/lang/Object"), (85, u "clone"), (0, u "()Ljava/lang/Object;")] 26

def k0c0 : Code := { maxStack := 0, maxLocals := 1, code := object_method_1_code, exceptionTable := #[], attributes := #[] }
def k0m0 : Method := { name := "<init>", desc := "()V", sig := { parameters := [], returnType := none }, accessFlags := 1, code := some k0c0 }
def k0m1 : Method := { name := "clone", desc := "()Ljava/lang/Object;", sig := { parameters := [], returnType := some (.object "java/lang/Object") }, accessFlags := 260, code := none }
/-- java/lang/Object -/
def k0 : Class := { plain "java/lang/Object" none with
  accessFlags := 33
  interfaces := #[]
  cf := some (fileOf pool0 8 #[] #[{ accessFlags := 1, nameIndex := 5, descriptorIndex := 6, attributes := #[] }, { accessFlags := 260, nameIndex := 96, descriptorIndex := 97, attributes := #[] }] 33 0 #[] #[])
  fields := #[]
  methods := #[k0m0, k0m1]
  instanceTypes := #[]
  staticTypes := #[]
  resolved := Array.replicate 124 none
  statics := none }

def pool1 : Array CpInfo := pool [(2, .class_ 4), (0, .nameAndType 5 6), (0, u "java/lang/Object"), (0, u "<init>"), (0, u "()V"), (0, .class_ 8), (0, u "com/example/bote/bote/service/SendQueue$Kind"), (0, .fieldref 7 10), (0, .nameAndType 11 12), (0, u "STORED"), (0, u "Lcom/example/bote/bote/service/SendQueue$Kind;"), (0, .fieldref 7 14), (0, .nameAndType 15 12), (0, u "OFFERED"), (0, .fieldref 7 17), (0, .nameAndType 18 12), (0, u "REPLY"), (0, .integer 2147483647), (0, .methodref 21 22), (0, .class_ 23), (0, .nameAndType 24 25), (0, u "com/example/bote/bote/service/SendQueueIsFullPinLaw"), (0, u "pick"), (0, u "(I)Lcom/example/bote/bote/service/SendQueue$Kind;"), (0, .class_ 27), (0, u "com/example/bote/bote/service/SendQueue"), (0, .methodref 26 3), (0, .methodref 26 30), (0, .nameAndType 31 32), (0, u "isFull"), (0, u "(Lcom/example/bote/bote/service/SendQueue$Kind;)Z"), (0, .methodref 34 35), (0, .class_ 36), (0, .nameAndType 37 38), (0, u "java/lang/Integer"), (0, u "valueOf"), (0, u "(I)Ljava/lang/Integer;"), (0, .methodref 26 40), (0, .nameAndType 41 42), (0, u "add"), (0, u "(Ljava/lang/Object;Lcom/example/bote/bote/service/SendQueue$Kind;)Z"), (0, .methodref 26 44), (0, .nameAndType 45 46), (0, u "poll"), (0, u "()Ljava/lang/Object;"), (2, u "law"), (0, u "(IIIIII)Z")] 5

def k1m0 : Method := { name := "<init>", desc := "()V", sig := { parameters := [], returnType := none }, accessFlags := 1, code := none }
def k1c1 : Code := { maxStack := 4, maxLocals := 2, code := method_2_code, exceptionTable := #[], attributes := #[] }
def k1m1 : Method := { name := "pick", desc := "(I)Lcom/example/bote/bote/service/SendQueue$Kind;", sig := { parameters := [.int], returnType := some (.object "com/example/bote/bote/service/SendQueue$Kind") }, accessFlags := 10, code := some k1c1 }
def k1c2 : Code := { maxStack := 3, maxLocals := 17, code := code, exceptionTable := #[], attributes := #[] }
def k1m2 : Method := { name := "law", desc := "(IIIIII)Z", sig := { parameters := [.int, .int, .int, .int, .int, .int], returnType := some .boolean }, accessFlags := 9, code := some k1c2 }
/-- com/example/bote/bote/service/SendQueueIsFullPinLaw -/
def k1 : Class := { plain "com/example/bote/bote/service/SendQueueIsFullPinLaw" (some 0) with
  accessFlags := 49
  interfaces := #[]
  cf := some (fileOf pool1 21 #[] #[{ accessFlags := 1, nameIndex := 5, descriptorIndex := 6, attributes := #[] }, { accessFlags := 10, nameIndex := 24, descriptorIndex := 25, attributes := #[] }, { accessFlags := 9, nameIndex := 49, descriptorIndex := 50, attributes := #[] }] 49 2 #[] #[])
  fields := #[]
  methods := #[k1m0, k1m1, k1m2]
  instanceTypes := #[]
  staticTypes := #[]
  resolved := Array.replicate 56 none
  statics := none }

def pool2 : Array CpInfo := pool [(1, .class_ 2), (0, u "java/lang/constant/Constable"), (0, .class_ 4), (0, u "java/lang/Object")] 6

/-- java/lang/constant/Constable -/
def k2 : Class := { plain "java/lang/constant/Constable" (some 0) with
  accessFlags := 1537
  interfaces := #[]
  cf := some (fileOf pool2 1 #[] #[] 1537 3 #[] #[])
  fields := #[]
  methods := #[]
  instanceTypes := #[]
  staticTypes := #[]
  resolved := Array.replicate 11 none
  statics := none }

def pool3 : Array CpInfo := pool [(1, .class_ 2), (0, u "java/lang/Comparable"), (0, .class_ 4), (0, u "java/lang/Object")] 7

/-- java/lang/Comparable -/
def k3 : Class := { plain "java/lang/Comparable" (some 0) with
  accessFlags := 1537
  interfaces := #[]
  cf := some (fileOf pool3 1 #[] #[] 1537 3 #[] #[])
  fields := #[]
  methods := #[]
  instanceTypes := #[]
  staticTypes := #[]
  resolved := Array.replicate 12 none
  statics := none }

def pool4 : Array CpInfo := pool [(1, .class_ 2), (0, u "java/io/Serializable"), (0, .class_ 4), (0, u "java/lang/Object")] 2

/-- java/io/Serializable -/
def k4 : Class := { plain "java/io/Serializable" (some 0) with
  accessFlags := 1537
  interfaces := #[]
  cf := some (fileOf pool4 1 #[] #[] 1537 3 #[] #[])
  fields := #[]
  methods := #[]
  instanceTypes := #[]
  staticTypes := #[]
  resolved := Array.replicate 7 none
  statics := none }

def pool5 : Array CpInfo := pool [(2, .class_ 4), (1, u "java/lang/Enum"), (0, u "name"), (0, u "Ljava/lang/String;"), (0, .fieldref 2 8), (0, .nameAndType 9 10), (0, u "ordinal"), (0, u "I"), (1, .class_ 14), (1, u "java/lang/Object"), (4, u "hash"), (86, .class_ 108), (1, u "java/lang/Enum$EnumDesc"), (2, .class_ 112), (0, u "java/lang/constant/Constable"), (0, .class_ 114), (0, u "java/lang/Comparable"), (0, .class_ 116), (0, u "java/io/Serializable"), (9, u "()I")] 77

def k5c0 : Code := { maxStack := 1, maxLocals := 1, code := jdk_37_method_2_code, exceptionTable := #[], attributes := #[] }
def k5m0 : Method := { name := "ordinal", desc := "()I", sig := { parameters := [], returnType := some .int }, accessFlags := 17, code := some k5c0 }
/-- java/lang/Enum -/
def k5 : Class := { plain "java/lang/Enum" (some 0) with
  accessFlags := 1057
  interfaces := #[2, 3, 4]
  cf := some (fileOf pool5 2 #[.nestMembers #[106]] #[{ accessFlags := 17, nameIndex := 9, descriptorIndex := 126, attributes := #[] }] 1057 12 #[111, 113, 115] #[{ accessFlags := 18, nameIndex := 5, descriptorIndex := 6, attributes := #[] }, { accessFlags := 18, nameIndex := 9, descriptorIndex := 10, attributes := #[] }, { accessFlags := 2, nameIndex := 19, descriptorIndex := 10, attributes := #[] }])
  fields := #[{ name := "name", type := (.object "java/lang/String"), accessFlags := 18, slot := 0, constantValue := 0 }, { name := "ordinal", type := .int, accessFlags := 18, slot := 1, constantValue := 0 }, { name := "hash", type := .int, accessFlags := 2, slot := 2, constantValue := 0 }]
  methods := #[k5m0]
  instanceTypes := #[(.object "java/lang/String"), .int, .int]
  staticTypes := #[]
  resolved := Array.replicate 204 none
  statics := none }

def pool6 : Array CpInfo := pool [(1, .class_ 2), (0, u "com/example/bote/bote/service/SendQueue"), (0, .class_ 4), (0, u "com/example/bote/bote/service/SendQueue$Kind"), (2, u "STORED"), (0, u "Lcom/example/bote/bote/service/SendQueue$Kind;"), (2, u "OFFERED"), (2, u "REPLY"), (0, .fieldref 3 16), (0, .nameAndType 17 18), (0, u "$VALUES"), (0, u "[Lcom/example/bote/bote/service/SendQueue$Kind;"), (0, .methodref 20 21), (0, .class_ 18), (0, .nameAndType 22 23), (0, u "clone"), (0, u "()Ljava/lang/Object;"), (1, .class_ 27), (1, u "java/lang/Enum"), (8, u "most"), (0, u "I"), (12, u "()[Lcom/example/bote/bote/service/SendQueue$Kind;"), (0, u "values")] 14

def k6c0 : Code := { maxStack := 1, maxLocals := 0, code := prog_26_method_1_code, exceptionTable := #[], attributes := #[] }
def k6m0 : Method := { name := "values", desc := "()[Lcom/example/bote/bote/service/SendQueue$Kind;", sig := { parameters := [], returnType := some (.array (.object "com/example/bote/bote/service/SendQueue$Kind")) }, accessFlags := 9, code := some k6c0 }
/-- com/example/bote/bote/service/SendQueue$Kind -/
def k6 : Class := { plain "com/example/bote/bote/service/SendQueue$Kind" (some 5) with
  accessFlags := 16433
  interfaces := #[]
  cf := some (fileOf pool6 3 #[.nestHost 1] #[{ accessFlags := 9, nameIndex := 51, descriptorIndex := 50, attributes := #[] }] 16433 25 #[] #[{ accessFlags := 16409, nameIndex := 7, descriptorIndex := 8, attributes := #[] }, { accessFlags := 16409, nameIndex := 11, descriptorIndex := 8, attributes := #[] }, { accessFlags := 16409, nameIndex := 14, descriptorIndex := 8, attributes := #[] }, { accessFlags := 18, nameIndex := 36, descriptorIndex := 37, attributes := #[] }, { accessFlags := 4122, nameIndex := 17, descriptorIndex := 18, attributes := #[] }])
  fields := #[{ name := "STORED", type := (.object "com/example/bote/bote/service/SendQueue$Kind"), accessFlags := 16409, slot := 0, constantValue := 0 }, { name := "OFFERED", type := (.object "com/example/bote/bote/service/SendQueue$Kind"), accessFlags := 16409, slot := 1, constantValue := 0 }, { name := "REPLY", type := (.object "com/example/bote/bote/service/SendQueue$Kind"), accessFlags := 16409, slot := 2, constantValue := 0 }, { name := "most", type := .int, accessFlags := 18, slot := 3, constantValue := 0 }, { name := "$VALUES", type := (.array (.object "com/example/bote/bote/service/SendQueue$Kind")), accessFlags := 4122, slot := 3, constantValue := 0 }]
  methods := #[k6m0]
  instanceTypes := #[(.object "java/lang/String"), .int, .int, .int]
  staticTypes := #[(.object "com/example/bote/bote/service/SendQueue$Kind"), (.object "com/example/bote/bote/service/SendQueue$Kind"), (.object "com/example/bote/bote/service/SendQueue$Kind"), (.array (.object "com/example/bote/bote/service/SendQueue$Kind"))]
  resolved := Array.replicate 66 none
  statics := some 0 }

def pool7 : Array CpInfo := pool [(1, .methodref 2 3), (0, .class_ 4), (0, .nameAndType 5 6), (0, u "java/lang/Object"), (0, u "<init>"), (0, u "()V"), (0, .class_ 8), (0, u "java/util/ArrayDeque"), (0, .methodref 7 3), (0, .fieldref 11 12), (0, .class_ 13), (0, .nameAndType 14 15), (0, u "com/example/bote/bote/service/SendQueue"), (0, u "items"), (0, u "Ljava/util/Deque;"), (0, .fieldref 11 17), (0, .nameAndType 18 15), (0, u "kinds"), (0, .methodref 20 21), (0, .class_ 22), (0, .nameAndType 23 24), (0, u "com/example/bote/bote/service/SendQueue$Kind"), (0, u "values"), (0, u "()[Lcom/example/bote/bote/service/SendQueue$Kind;"), (0, .fieldref 11 26), (0, .nameAndType 27 28), (0, u "waiting"), (0, u "[I"), (0, .methodref 11 30), (0, .nameAndType 31 32), (0, u "isFull"), (0, u "(Lcom/example/bote/bote/service/SendQueue$Kind;)Z"), (0, .interfaceMethodref 34 35), (0, .class_ 36), (0, .nameAndType 37 38), (0, u "java/util/Deque"), (0, u "add"), (0, u "(Ljava/lang/Object;)Z"), (0, .methodref 20 40), (0, .nameAndType 41 42), (0, u "ordinal"), (0, u "()I"), (0, .fieldref 20 44), (0, .nameAndType 45 46), (0, u "most"), (0, u "I"), (3, u "()Ljava/lang/Object;"), (0, .interfaceMethodref 34 52), (0, .nameAndType 53 50), (0, u "poll"), (0, .interfaceMethodref 34 55), (0, .nameAndType 56 50), (0, u "remove"), (13, u "MOST_OFFERED"), (2, u "MOST_REPLIES"), (5, u "(Ljava/lang/Object;Lcom/example/bote/bote/service/SendQueue$Kind;)Z")] 9

def k7c0 : Code := { maxStack := 3, maxLocals := 1, code := prog_25_method_1_code, exceptionTable := #[], attributes := #[] }
def k7m0 : Method := { name := "<init>", desc := "()V", sig := { parameters := [], returnType := none }, accessFlags := 1, code := some k7c0 }
def k7c1 : Code := { maxStack := 4, maxLocals := 4, code := prog_25_method_2_code, exceptionTable := #[], attributes := #[] }
def k7m1 : Method := { name := "add", desc := "(Ljava/lang/Object;Lcom/example/bote/bote/service/SendQueue$Kind;)Z", sig := { parameters := [(.object "java/lang/Object"), (.object "com/example/bote/bote/service/SendQueue$Kind")], returnType := some .boolean }, accessFlags := 1, code := some k7c1 }
def k7c2 : Code := { maxStack := 2, maxLocals := 2, code := prog_25_method_3_code, exceptionTable := #[], attributes := #[] }
def k7m2 : Method := { name := "isFull", desc := "(Lcom/example/bote/bote/service/SendQueue$Kind;)Z", sig := { parameters := [(.object "com/example/bote/bote/service/SendQueue$Kind")], returnType := some .boolean }, accessFlags := 1, code := some k7c2 }
def k7c3 : Code := { maxStack := 4, maxLocals := 2, code := prog_25_method_5_code, exceptionTable := #[], attributes := #[] }
def k7m3 : Method := { name := "poll", desc := "()Ljava/lang/Object;", sig := { parameters := [], returnType := some (.object "java/lang/Object") }, accessFlags := 1, code := some k7c3 }
/-- com/example/bote/bote/service/SendQueue -/
def k7 : Class := { plain "com/example/bote/bote/service/SendQueue" (some 0) with
  accessFlags := 49
  interfaces := #[]
  cf := some (fileOf pool7 11 #[.nestMembers #[20]] #[{ accessFlags := 1, nameIndex := 5, descriptorIndex := 6, attributes := #[] }, { accessFlags := 1, nameIndex := 37, descriptorIndex := 79, attributes := #[] }, { accessFlags := 1, nameIndex := 31, descriptorIndex := 32, attributes := #[] }, { accessFlags := 1, nameIndex := 53, descriptorIndex := 50, attributes := #[] }] 49 2 #[] #[{ accessFlags := 24, nameIndex := 70, descriptorIndex := 46, attributes := #[] }, { accessFlags := 25, nameIndex := 73, descriptorIndex := 46, attributes := #[] }, { accessFlags := 18, nameIndex := 14, descriptorIndex := 15, attributes := #[] }, { accessFlags := 18, nameIndex := 18, descriptorIndex := 15, attributes := #[] }, { accessFlags := 18, nameIndex := 27, descriptorIndex := 28, attributes := #[] }])
  fields := #[{ name := "MOST_OFFERED", type := .int, accessFlags := 24, slot := 0, constantValue := 0 }, { name := "MOST_REPLIES", type := .int, accessFlags := 25, slot := 1, constantValue := 0 }, { name := "items", type := (.object "java/util/Deque"), accessFlags := 18, slot := 0, constantValue := 0 }, { name := "kinds", type := (.object "java/util/Deque"), accessFlags := 18, slot := 1, constantValue := 0 }, { name := "waiting", type := (.array .int), accessFlags := 18, slot := 2, constantValue := 0 }]
  methods := #[k7m0, k7m1, k7m2, k7m3]
  instanceTypes := #[(.object "java/util/Deque"), (.object "java/util/Deque"), (.array .int)]
  staticTypes := #[.int, .int]
  resolved := (Array.replicate 89 none).setIfInBounds 43 (some (.field 6 3))
  statics := none }

def pool8 : Array CpInfo := pool [(8, .class_ 10), (1, u "java/lang/Iterable"), (24, .class_ 36), (0, u "java/lang/Object")] 25

/-- java/lang/Iterable -/
def k8 : Class := { plain "java/lang/Iterable" (some 0) with
  accessFlags := 1537
  interfaces := #[]
  cf := some (fileOf pool8 8 #[] #[] 1537 35 #[] #[])
  fields := #[]
  methods := #[]
  instanceTypes := #[]
  staticTypes := #[]
  resolved := Array.replicate 62 none
  statics := none }

def pool9 : Array CpInfo := pool [(10, .class_ 12), (1, u "java/util/Collection"), (47, .class_ 61), (0, u "java/lang/Object"), (0, .class_ 63), (0, u "java/lang/Iterable")] 51

/-- java/util/Collection -/
def k9 : Class := { plain "java/util/Collection" (some 0) with
  accessFlags := 1537
  interfaces := #[8]
  cf := some (fileOf pool9 10 #[] #[] 1537 60 #[62] #[])
  fields := #[]
  methods := #[]
  instanceTypes := #[]
  staticTypes := #[]
  resolved := Array.replicate 115 none
  statics := none }

def pool10 : Array CpInfo := pool [(1, .methodref 2 3), (0, .class_ 4), (0, .nameAndType 5 6), (0, u "java/lang/Object"), (0, u "<init>"), (0, u "()V"), (1, .class_ 10), (1, u "java/util/AbstractCollection"), (66, .class_ 78), (0, u "java/util/Collection")] 81

def k10c0 : Code := { maxStack := 1, maxLocals := 1, code := jdk_22_method_1_code, exceptionTable := #[], attributes := #[] }
def k10m0 : Method := { name := "<init>", desc := "()V", sig := { parameters := [], returnType := none }, accessFlags := 4, code := some k10c0 }
/-- java/util/AbstractCollection -/
def k10 : Class := { plain "java/util/AbstractCollection" (some 0) with
  accessFlags := 1057
  interfaces := #[9]
  cf := some (fileOf pool10 8 #[] #[{ accessFlags := 4, nameIndex := 5, descriptorIndex := 6, attributes := #[] }] 1057 2 #[77] #[])
  fields := #[]
  methods := #[k10m0]
  instanceTypes := #[]
  staticTypes := #[]
  resolved := Array.replicate 160 none
  statics := none }

def pool11 : Array CpInfo := pool [(1, .class_ 2), (0, u "java/util/Queue"), (0, .class_ 4), (0, u "java/lang/Object"), (0, .class_ 6), (0, u "java/util/Collection")] 14

/-- java/util/Queue -/
def k11 : Class := { plain "java/util/Queue" (some 0) with
  accessFlags := 1537
  interfaces := #[9]
  cf := some (fileOf pool11 1 #[] #[] 1537 3 #[5] #[])
  fields := #[]
  methods := #[]
  instanceTypes := #[]
  staticTypes := #[]
  resolved := Array.replicate 21 none
  statics := none }

def pool12 : Array CpInfo := pool [(8, .class_ 10), (1, u "java/util/SequencedCollection"), (15, .class_ 27), (0, u "java/lang/Object"), (0, .class_ 29), (0, u "java/util/Collection")] 27

/-- java/util/SequencedCollection -/
def k12 : Class := { plain "java/util/SequencedCollection" (some 0) with
  accessFlags := 1537
  interfaces := #[9]
  cf := some (fileOf pool12 8 #[] #[] 1537 26 #[28] #[])
  fields := #[]
  methods := #[]
  instanceTypes := #[]
  staticTypes := #[]
  resolved := Array.replicate 57 none
  statics := none }

def pool13 : Array CpInfo := pool [(8, .class_ 10), (1, u "java/util/Deque"), (2, .class_ 14), (0, u "java/lang/Object"), (0, .class_ 16), (0, u "java/util/Queue"), (0, .class_ 18), (0, u "java/util/SequencedCollection"), (6, u "(Ljava/lang/Object;)Z"), (3, u "()Ljava/lang/Object;"), (10, u "add"), (1, u "remove"), (0, u "poll")] 26

def k13m0 : Method := { name := "add", desc := "(Ljava/lang/Object;)Z", sig := { parameters := [(.object "java/lang/Object")], returnType := some .boolean }, accessFlags := 1025, code := none }
def k13m1 : Method := { name := "remove", desc := "()Ljava/lang/Object;", sig := { parameters := [], returnType := some (.object "java/lang/Object") }, accessFlags := 1025, code := none }
def k13m2 : Method := { name := "poll", desc := "()Ljava/lang/Object;", sig := { parameters := [], returnType := some (.object "java/lang/Object") }, accessFlags := 1025, code := none }
/-- java/util/Deque -/
def k13 : Class := { plain "java/util/Deque" (some 0) with
  accessFlags := 1537
  interfaces := #[11, 12]
  cf := some (fileOf pool13 8 #[] #[{ accessFlags := 1025, nameIndex := 40, descriptorIndex := 25, attributes := #[] }, { accessFlags := 1025, nameIndex := 42, descriptorIndex := 29, attributes := #[] }, { accessFlags := 1025, nameIndex := 43, descriptorIndex := 29, attributes := #[] }] 1537 13 #[15, 17] #[])
  fields := #[]
  methods := #[k13m0, k13m1, k13m2]
  instanceTypes := #[]
  staticTypes := #[]
  resolved := Array.replicate 70 none
  statics := none }

def pool14 : Array CpInfo := pool [(1, .class_ 2), (0, u "java/lang/Cloneable"), (0, .class_ 4), (0, u "java/lang/Object")] 2

/-- java/lang/Cloneable -/
def k14 : Class := { plain "java/lang/Cloneable" (some 0) with
  accessFlags := 1537
  interfaces := #[]
  cf := some (fileOf pool14 1 #[] #[] 1537 3 #[] #[])
  fields := #[]
  methods := #[]
  instanceTypes := #[]
  staticTypes := #[]
  resolved := Array.replicate 7 none
  statics := none }

def pool15 : Array CpInfo := pool [(3, .fieldref 4 5), (0, .class_ 6), (0, .nameAndType 7 8), (0, u "java/util/ArrayDeque"), (0, u "elements"), (0, u "[Ljava/lang/Object;"), (4, u "(II)I"), (6, .fieldref 4 21), (0, .nameAndType 22 23), (0, u "tail"), (0, u "I"), (0, .fieldref 4 25), (0, .nameAndType 26 23), (0, u "head"), (12, u "<init>"), (2, .methodref 43 44), (0, .class_ 45), (0, .nameAndType 39 46), (0, u "java/util/AbstractCollection"), (0, u "()V"), (0, .class_ 48), (0, u "java/lang/Object"), (25, .methodref 4 75), (0, .nameAndType 76 13), (0, u "inc"), (12, u "(Ljava/lang/Object;)V"), (0, .methodref 4 91), (0, .nameAndType 92 89), (0, u "addLast"), (0, .methodref 4 94), (0, .nameAndType 95 96), (0, u "pollFirst"), (0, u "()Ljava/lang/Object;"), (6, .methodref 4 104), (0, .nameAndType 105 106), (0, u "elementAt"), (0, u "([Ljava/lang/Object;I)Ljava/lang/Object;"), (3, u "(Ljava/lang/Object;)Z"), (7, .methodref 4 119), (0, .nameAndType 120 96), (0, u "removeFirst"), (10, .class_ 132), (0, u "java/util/ArrayDeque$DeqIterator"), (3, .class_ 137), (0, u "java/util/ArrayDeque$DescendingIterator"), (1, .class_ 140), (0, u "java/util/ArrayDeque$DeqSpliterator"), (137, .class_ 279), (0, u "java/util/Deque"), (0, .class_ 281), (0, u "java/lang/Cloneable"), (0, .class_ 283), (0, u "java/io/Serializable"), (0, u "MAX_ARRAY_SIZE"), (1, u "serialVersionUID"), (0, u "J"), (48, u "add"), (1, u "remove"), (0, u "poll")] 98

def k15c0 : Code := { maxStack := 2, maxLocals := 1, code := jdk_21_method_3_code, exceptionTable := #[], attributes := #[] }
def k15m0 : Method := { name := "<init>", desc := "()V", sig := { parameters := [], returnType := none }, accessFlags := 1, code := some k15c0 }
def k15c1 : Code := { maxStack := 2, maxLocals := 2, code := jdk_21_method_6_code, exceptionTable := #[], attributes := #[] }
def k15m1 : Method := { name := "inc", desc := "(II)I", sig := { parameters := [.int, .int], returnType := some .int }, accessFlags := 24, code := some k15c1 }
def k15c2 : Code := { maxStack := 2, maxLocals := 2, code := jdk_21_method_10_code, exceptionTable := #[], attributes := #[] }
def k15m2 : Method := { name := "elementAt", desc := "([Ljava/lang/Object;I)Ljava/lang/Object;", sig := { parameters := [(.array (.object "java/lang/Object")), .int], returnType := some (.object "java/lang/Object") }, accessFlags := 24, code := some k15c2 }
def k15c3 : Code := { maxStack := 4, maxLocals := 3, code := jdk_21_method_13_code, exceptionTable := #[], attributes := #[] }
def k15m3 : Method := { name := "addLast", desc := "(Ljava/lang/Object;)V", sig := { parameters := [(.object "java/lang/Object")], returnType := none }, accessFlags := 1, code := some k15c3 }
def k15c4 : Code := { maxStack := 2, maxLocals := 2, code := jdk_21_method_18_code, exceptionTable := #[], attributes := #[] }
def k15m4 : Method := { name := "removeFirst", desc := "()Ljava/lang/Object;", sig := { parameters := [], returnType := some (.object "java/lang/Object") }, accessFlags := 1, code := some k15c4 }
def k15c5 : Code := { maxStack := 3, maxLocals := 4, code := jdk_21_method_20_code, exceptionTable := #[], attributes := #[] }
def k15m5 : Method := { name := "pollFirst", desc := "()Ljava/lang/Object;", sig := { parameters := [], returnType := some (.object "java/lang/Object") }, accessFlags := 1, code := some k15c5 }
def k15c6 : Code := { maxStack := 2, maxLocals := 2, code := jdk_21_method_28_code, exceptionTable := #[], attributes := #[] }
def k15m6 : Method := { name := "add", desc := "(Ljava/lang/Object;)Z", sig := { parameters := [(.object "java/lang/Object")], returnType := some .boolean }, accessFlags := 1, code := some k15c6 }
def k15c7 : Code := { maxStack := 1, maxLocals := 1, code := jdk_21_method_30_code, exceptionTable := #[], attributes := #[] }
def k15m7 : Method := { name := "remove", desc := "()Ljava/lang/Object;", sig := { parameters := [], returnType := some (.object "java/lang/Object") }, accessFlags := 1, code := some k15c7 }
def k15c8 : Code := { maxStack := 1, maxLocals := 1, code := jdk_21_method_31_code, exceptionTable := #[], attributes := #[] }
def k15m8 : Method := { name := "poll", desc := "()Ljava/lang/Object;", sig := { parameters := [], returnType := some (.object "java/lang/Object") }, accessFlags := 1, code := some k15c8 }
/-- java/util/ArrayDeque -/
def k15 : Class := { plain "java/util/ArrayDeque" (some 10) with
  accessFlags := 33
  interfaces := #[13, 14, 4]
  cf := some (fileOf pool15 4 #[.nestMembers #[139, 136, 131]] #[{ accessFlags := 1, nameIndex := 39, descriptorIndex := 46, attributes := #[] }, { accessFlags := 24, nameIndex := 76, descriptorIndex := 13, attributes := #[] }, { accessFlags := 24, nameIndex := 105, descriptorIndex := 106, attributes := #[] }, { accessFlags := 1, nameIndex := 92, descriptorIndex := 89, attributes := #[] }, { accessFlags := 1, nameIndex := 120, descriptorIndex := 96, attributes := #[] }, { accessFlags := 1, nameIndex := 95, descriptorIndex := 96, attributes := #[] }, { accessFlags := 1, nameIndex := 336, descriptorIndex := 110, attributes := #[] }, { accessFlags := 1, nameIndex := 338, descriptorIndex := 96, attributes := #[] }, { accessFlags := 1, nameIndex := 339, descriptorIndex := 96, attributes := #[] }] 33 43 #[278, 280, 282] #[{ accessFlags := 128, nameIndex := 7, descriptorIndex := 8, attributes := #[] }, { accessFlags := 128, nameIndex := 26, descriptorIndex := 23, attributes := #[] }, { accessFlags := 128, nameIndex := 22, descriptorIndex := 23, attributes := #[] }, { accessFlags := 26, nameIndex := 284, descriptorIndex := 23, attributes := #[] }, { accessFlags := 26, nameIndex := 286, descriptorIndex := 287, attributes := #[] }])
  fields := #[{ name := "elements", type := (.array (.object "java/lang/Object")), accessFlags := 128, slot := 0, constantValue := 0 }, { name := "head", type := .int, accessFlags := 128, slot := 1, constantValue := 0 }, { name := "tail", type := .int, accessFlags := 128, slot := 2, constantValue := 0 }, { name := "MAX_ARRAY_SIZE", type := .int, accessFlags := 26, slot := 0, constantValue := 0 }, { name := "serialVersionUID", type := .long, accessFlags := 26, slot := 1, constantValue := 0 }]
  methods := #[k15m0, k15m1, k15m2, k15m3, k15m4, k15m5, k15m6, k15m7, k15m8]
  instanceTypes := #[(.array (.object "java/lang/Object")), .int, .int]
  staticTypes := #[.int, .long]
  resolved := Array.replicate 438 none
  statics := none }

def pool16 : Array CpInfo := pool [(1, .methodref 2 3), (0, .class_ 4), (0, .nameAndType 5 6), (0, u "java/lang/Object"), (0, u "<init>"), (0, u "()V"), (1, .class_ 10), (1, u "java/lang/Number"), (2, .class_ 14), (0, u "java/io/Serializable"), (0, u "serialVersionUID"), (0, u "J")] 20

def k16c0 : Code := { maxStack := 1, maxLocals := 1, code := jdk_18_method_1_code, exceptionTable := #[], attributes := #[] }
def k16m0 : Method := { name := "<init>", desc := "()V", sig := { parameters := [], returnType := none }, accessFlags := 1, code := some k16c0 }
/-- java/lang/Number -/
def k16 : Class := { plain "java/lang/Number" (some 0) with
  accessFlags := 1057
  interfaces := #[4]
  cf := some (fileOf pool16 8 #[] #[{ accessFlags := 1, nameIndex := 5, descriptorIndex := 6, attributes := #[] }] 1057 2 #[13] #[{ accessFlags := 26, nameIndex := 15, descriptorIndex := 16, attributes := #[] }])
  fields := #[{ name := "serialVersionUID", type := .long, accessFlags := 26, slot := 0, constantValue := 0 }]
  methods := #[k16m0]
  instanceTypes := #[]
  staticTypes := #[.long]
  resolved := Array.replicate 37 none
  statics := none }

def pool17 : Array CpInfo := pool [(1, .class_ 2), (0, u "java/lang/constant/ConstantDesc"), (0, .class_ 4), (0, u "java/lang/Object")] 32

/-- java/lang/constant/ConstantDesc -/
def k17 : Class := { plain "java/lang/constant/ConstantDesc" (some 0) with
  accessFlags := 1537
  interfaces := #[]
  cf := some (fileOf pool17 1 #[] #[] 1537 3 #[] #[])
  fields := #[]
  methods := #[]
  instanceTypes := #[]
  staticTypes := #[]
  resolved := Array.replicate 37 none
  statics := none }

def pool18 : Array CpInfo := pool [(1, .class_ 2), (0, u "java/lang/Integer"), (16, u "digits"), (0, u "[C"), (46, u "<init>"), (17, u "DigitOnes"), (0, u "[B"), (2, u "DigitTens"), (10, .nameAndType 67 101), (0, u "()V"), (85, u "valueOf"), (0, u "(I)Ljava/lang/Integer;"), (0, .class_ 190), (0, u "java/lang/Integer$IntegerCache"), (0, .fieldref 189 192), (0, .nameAndType 193 194), (0, u "high"), (0, u "I"), (0, .fieldref 189 196), (0, .nameAndType 197 198), (0, u "cache"), (0, u "[Ljava/lang/Integer;"), (0, .methodref 1 200), (0, .nameAndType 67 201), (0, u "(I)V"), (0, .methodref 203 100), (0, .class_ 204), (0, u "java/lang/Number"), (0, .fieldref 1 206), (0, .nameAndType 207 194), (0, u "value"), (94, u "TYPE"), (0, u "Ljava/lang/Class;"), (0, .class_ 305), (0, u "java/lang/Comparable"), (0, .class_ 307), (0, u "java/lang/constant/Constable"), (0, .class_ 309), (0, u "java/lang/constant/ConstantDesc"), (0, u "MIN_VALUE"), (1, u "MAX_VALUE"), (3, u "SIZE"), (1, u "BYTES"), (1, u "serialVersionUID"), (0, u "J")] 131

def k18c0 : Code := { maxStack := 3, maxLocals := 1, code := jdk_33_method_22_code, exceptionTable := #[], attributes := #[] }
def k18m0 : Method := { name := "valueOf", desc := "(I)Ljava/lang/Integer;", sig := { parameters := [.int], returnType := some (.object "java/lang/Integer") }, accessFlags := 9, code := some k18c0 }
def k18c1 : Code := { maxStack := 2, maxLocals := 2, code := jdk_33_method_23_code, exceptionTable := #[], attributes := #[] }
def k18m1 : Method := { name := "<init>", desc := "(I)V", sig := { parameters := [.int], returnType := none }, accessFlags := 1, code := some k18c1 }
/-- java/lang/Integer -/
def k18 : Class := { plain "java/lang/Integer" (some 16) with
  accessFlags := 49
  interfaces := #[3, 2, 17]
  cf := some (fileOf pool18 1 #[.nestMembers #[189]] #[{ accessFlags := 9, nameIndex := 187, descriptorIndex := 188, attributes := #[] }, { accessFlags := 1, nameIndex := 67, descriptorIndex := 201, attributes := #[] }] 49 203 #[304, 306, 308] #[{ accessFlags := 25, nameIndex := 310, descriptorIndex := 194, attributes := #[] }, { accessFlags := 25, nameIndex := 312, descriptorIndex := 194, attributes := #[] }, { accessFlags := 25, nameIndex := 302, descriptorIndex := 303, attributes := #[] }, { accessFlags := 24, nameIndex := 19, descriptorIndex := 20, attributes := #[] }, { accessFlags := 24, nameIndex := 89, descriptorIndex := 86, attributes := #[] }, { accessFlags := 24, nameIndex := 85, descriptorIndex := 86, attributes := #[] }, { accessFlags := 18, nameIndex := 207, descriptorIndex := 194, attributes := #[] }, { accessFlags := 25, nameIndex := 316, descriptorIndex := 194, attributes := #[] }, { accessFlags := 25, nameIndex := 318, descriptorIndex := 194, attributes := #[] }, { accessFlags := 26, nameIndex := 320, descriptorIndex := 321, attributes := #[] }])
  fields := #[{ name := "MIN_VALUE", type := .int, accessFlags := 25, slot := 0, constantValue := 0 }, { name := "MAX_VALUE", type := .int, accessFlags := 25, slot := 1, constantValue := 0 }, { name := "TYPE", type := (.object "java/lang/Class"), accessFlags := 25, slot := 2, constantValue := 0 }, { name := "digits", type := (.array .char), accessFlags := 24, slot := 3, constantValue := 0 }, { name := "DigitTens", type := (.array .byte), accessFlags := 24, slot := 4, constantValue := 0 }, { name := "DigitOnes", type := (.array .byte), accessFlags := 24, slot := 5, constantValue := 0 }, { name := "value", type := .int, accessFlags := 18, slot := 0, constantValue := 0 }, { name := "SIZE", type := .int, accessFlags := 25, slot := 6, constantValue := 0 }, { name := "BYTES", type := .int, accessFlags := 25, slot := 7, constantValue := 0 }, { name := "serialVersionUID", type := .long, accessFlags := 26, slot := 8, constantValue := 0 }]
  methods := #[k18m0, k18m1]
  instanceTypes := #[.int]
  staticTypes := #[.int, .int, (.object "java/lang/Class"), (.array .char), (.array .byte), (.array .byte), .int, .int, .long]
  resolved := Array.replicate 453 none
  statics := none }

def pool19 : Array CpInfo := pool [(2, .class_ 4), (1, u "java/lang/Object"), (0, u "<init>"), (0, u "()V"), (0, .class_ 8), (0, u "java/lang/Integer"), (7, .class_ 18), (1, u "java/lang/Integer$IntegerCache"), (0, u "$assertionsDisabled"), (0, u "Z"), (26, u "high"), (0, u "I"), (8, u "archivedCache"), (0, u "[Ljava/lang/Integer;"), (12, u "cache"), (0, u "low")] 27

def k19m0 : Method := { name := "<init>", desc := "()V", sig := { parameters := [], returnType := none }, accessFlags := 2, code := none }
/-- java/lang/Integer$IntegerCache -/
def k19 : Class := { plain "java/lang/Integer$IntegerCache" (some 0) with
  accessFlags := 48
  interfaces := #[]
  cf := some (fileOf pool19 16 #[.nestHost 7] #[{ accessFlags := 2, nameIndex := 5, descriptorIndex := 6, attributes := #[] }] 48 2 #[] #[{ accessFlags := 24, nameIndex := 72, descriptorIndex := 48, attributes := #[] }, { accessFlags := 24, nameIndex := 47, descriptorIndex := 48, attributes := #[] }, { accessFlags := 24, nameIndex := 71, descriptorIndex := 58, attributes := #[] }, { accessFlags := 8, nameIndex := 57, descriptorIndex := 58, attributes := #[] }, { accessFlags := 4120, nameIndex := 19, descriptorIndex := 20, attributes := #[] }])
  fields := #[{ name := "low", type := .int, accessFlags := 24, slot := 0, constantValue := 0 }, { name := "high", type := .int, accessFlags := 24, slot := 1, constantValue := 0 }, { name := "cache", type := (.array (.object "java/lang/Integer")), accessFlags := 24, slot := 2, constantValue := 0 }, { name := "archivedCache", type := (.array (.object "java/lang/Integer")), accessFlags := 8, slot := 3, constantValue := 0 }, { name := "$assertionsDisabled", type := .boolean, accessFlags := 4120, slot := 4, constantValue := 0 }]
  methods := #[k19m0]
  instanceTypes := #[]
  staticTypes := #[.int, .int, (.array (.object "java/lang/Integer")), (.array (.object "java/lang/Integer")), .boolean]
  resolved := Array.replicate 100 none
  statics := some 1 }

/-- the primitive byte -/
def k20 : Class := { plain "byte" none with kind := .primitive 'B', accessFlags := 0x411 }
/-- [B -/
def k21 : Class := { plain "[B" (some 0) with kind := .array 20 .byte, interfaces := #[14, 4], accessFlags := 1041 }

/-- the primitive int -/
def k22 : Class := { plain "int" none with kind := .primitive 'I', accessFlags := 0x411 }
/-- [I -/
def k23 : Class := { plain "[I" (some 0) with kind := .array 22 .int, interfaces := #[14, 4], accessFlags := 1041 }

/-- [Lcom/example/bote/bote/service/SendQueue$Kind; -/
def k24 : Class := { plain "[Lcom/example/bote/bote/service/SendQueue$Kind;" (some 0) with kind := .array 6 (.object "com/example/bote/bote/service/SendQueue$Kind"), interfaces := #[14, 4], accessFlags := 1041 }

/-- [Ljava/lang/Integer; -/
def k25 : Class := { plain "[Ljava/lang/Integer;" (some 0) with kind := .array 18 (.object "java/lang/Integer"), interfaces := #[14, 4], accessFlags := 1041 }

/-- [Ljava/lang/Object; -/
def k26 : Class := { plain "[Ljava/lang/Object;" (some 0) with kind := .array 0 (.object "java/lang/Object"), interfaces := #[14, 4], accessFlags := 1041 }

def heap : Heap := #[{ cls := 6, slots := #[.ref 260, .ref 261, .ref 262, .ref 3], vm := .statics 6 },
  { cls := 19, slots := #[.int 0, .int 127, .ref 2, .null, .int 0], vm := .statics 19 },
  { cls := 25, slots := #[.ref 4, .ref 5, .ref 6, .ref 7, .ref 8, .ref 9, .ref 10, .ref 11, .ref 12, .ref 13, .ref 14, .ref 15, .ref 16, .ref 17, .ref 18, .ref 19, .ref 20, .ref 21, .ref 22, .ref 23, .ref 24, .ref 25, .ref 26, .ref 27, .ref 28, .ref 29, .ref 30, .ref 31, .ref 32, .ref 33, .ref 34, .ref 35, .ref 36, .ref 37, .ref 38, .ref 39, .ref 40, .ref 41, .ref 42, .ref 43, .ref 44, .ref 45, .ref 46, .ref 47, .ref 48, .ref 49, .ref 50, .ref 51, .ref 52, .ref 53, .ref 54, .ref 55, .ref 56, .ref 57, .ref 58, .ref 59, .ref 60, .ref 61, .ref 62, .ref 63, .ref 64, .ref 65, .ref 66, .ref 67, .ref 68, .ref 69, .ref 70, .ref 71, .ref 72, .ref 73, .ref 74, .ref 75, .ref 76, .ref 77, .ref 78, .ref 79, .ref 80, .ref 81, .ref 82, .ref 83, .ref 84, .ref 85, .ref 86, .ref 87, .ref 88, .ref 89, .ref 90, .ref 91, .ref 92, .ref 93, .ref 94, .ref 95, .ref 96, .ref 97, .ref 98, .ref 99, .ref 100, .ref 101, .ref 102, .ref 103, .ref 104, .ref 105, .ref 106, .ref 107, .ref 108, .ref 109, .ref 110, .ref 111, .ref 112, .ref 113, .ref 114, .ref 115, .ref 116, .ref 117, .ref 118, .ref 119, .ref 120, .ref 121, .ref 122, .ref 123, .ref 124, .ref 125, .ref 126, .ref 127, .ref 128, .ref 129, .ref 130, .ref 131, .ref 132, .ref 133, .ref 134, .ref 135, .ref 136, .ref 137, .ref 138, .ref 139, .ref 140, .ref 141, .ref 142, .ref 143, .ref 144, .ref 145, .ref 146, .ref 147, .ref 148, .ref 149, .ref 150, .ref 151, .ref 152, .ref 153, .ref 154, .ref 155, .ref 156, .ref 157, .ref 158, .ref 159, .ref 160, .ref 161, .ref 162, .ref 163, .ref 164, .ref 165, .ref 166, .ref 167, .ref 168, .ref 169, .ref 170, .ref 171, .ref 172, .ref 173, .ref 174, .ref 175, .ref 176, .ref 177, .ref 178, .ref 179, .ref 180, .ref 181, .ref 182, .ref 183, .ref 184, .ref 185, .ref 186, .ref 187, .ref 188, .ref 189, .ref 190, .ref 191, .ref 192, .ref 193, .ref 194, .ref 195, .ref 196, .ref 197, .ref 198, .ref 199, .ref 200, .ref 201, .ref 202, .ref 203, .ref 204, .ref 205, .ref 206, .ref 207, .ref 208, .ref 209, .ref 210, .ref 211, .ref 212, .ref 213, .ref 214, .ref 215, .ref 216, .ref 217, .ref 218, .ref 219, .ref 220, .ref 221, .ref 222, .ref 223, .ref 224, .ref 225, .ref 226, .ref 227, .ref 228, .ref 229, .ref 230, .ref 231, .ref 232, .ref 233, .ref 234, .ref 235, .ref 236, .ref 237, .ref 238, .ref 239, .ref 240, .ref 241, .ref 242, .ref 243, .ref 244, .ref 245, .ref 246, .ref 247, .ref 248, .ref 249, .ref 250, .ref 251, .ref 252, .ref 253, .ref 254, .ref 255, .ref 256, .ref 257, .ref 258, .ref 259], vm := .none },
  { cls := 24, slots := #[.ref 260, .ref 261, .ref 262], vm := .none },
  { cls := 18, slots := #[.int (-128)], vm := .none },
  { cls := 18, slots := #[.int (-127)], vm := .none },
  { cls := 18, slots := #[.int (-126)], vm := .none },
  { cls := 18, slots := #[.int (-125)], vm := .none },
  { cls := 18, slots := #[.int (-124)], vm := .none },
  { cls := 18, slots := #[.int (-123)], vm := .none },
  { cls := 18, slots := #[.int (-122)], vm := .none },
  { cls := 18, slots := #[.int (-121)], vm := .none },
  { cls := 18, slots := #[.int (-120)], vm := .none },
  { cls := 18, slots := #[.int (-119)], vm := .none },
  { cls := 18, slots := #[.int (-118)], vm := .none },
  { cls := 18, slots := #[.int (-117)], vm := .none },
  { cls := 18, slots := #[.int (-116)], vm := .none },
  { cls := 18, slots := #[.int (-115)], vm := .none },
  { cls := 18, slots := #[.int (-114)], vm := .none },
  { cls := 18, slots := #[.int (-113)], vm := .none },
  { cls := 18, slots := #[.int (-112)], vm := .none },
  { cls := 18, slots := #[.int (-111)], vm := .none },
  { cls := 18, slots := #[.int (-110)], vm := .none },
  { cls := 18, slots := #[.int (-109)], vm := .none },
  { cls := 18, slots := #[.int (-108)], vm := .none },
  { cls := 18, slots := #[.int (-107)], vm := .none },
  { cls := 18, slots := #[.int (-106)], vm := .none },
  { cls := 18, slots := #[.int (-105)], vm := .none },
  { cls := 18, slots := #[.int (-104)], vm := .none },
  { cls := 18, slots := #[.int (-103)], vm := .none },
  { cls := 18, slots := #[.int (-102)], vm := .none },
  { cls := 18, slots := #[.int (-101)], vm := .none },
  { cls := 18, slots := #[.int (-100)], vm := .none },
  { cls := 18, slots := #[.int (-99)], vm := .none },
  { cls := 18, slots := #[.int (-98)], vm := .none },
  { cls := 18, slots := #[.int (-97)], vm := .none },
  { cls := 18, slots := #[.int (-96)], vm := .none },
  { cls := 18, slots := #[.int (-95)], vm := .none },
  { cls := 18, slots := #[.int (-94)], vm := .none },
  { cls := 18, slots := #[.int (-93)], vm := .none },
  { cls := 18, slots := #[.int (-92)], vm := .none },
  { cls := 18, slots := #[.int (-91)], vm := .none },
  { cls := 18, slots := #[.int (-90)], vm := .none },
  { cls := 18, slots := #[.int (-89)], vm := .none },
  { cls := 18, slots := #[.int (-88)], vm := .none },
  { cls := 18, slots := #[.int (-87)], vm := .none },
  { cls := 18, slots := #[.int (-86)], vm := .none },
  { cls := 18, slots := #[.int (-85)], vm := .none },
  { cls := 18, slots := #[.int (-84)], vm := .none },
  { cls := 18, slots := #[.int (-83)], vm := .none },
  { cls := 18, slots := #[.int (-82)], vm := .none },
  { cls := 18, slots := #[.int (-81)], vm := .none },
  { cls := 18, slots := #[.int (-80)], vm := .none },
  { cls := 18, slots := #[.int (-79)], vm := .none },
  { cls := 18, slots := #[.int (-78)], vm := .none },
  { cls := 18, slots := #[.int (-77)], vm := .none },
  { cls := 18, slots := #[.int (-76)], vm := .none },
  { cls := 18, slots := #[.int (-75)], vm := .none },
  { cls := 18, slots := #[.int (-74)], vm := .none },
  { cls := 18, slots := #[.int (-73)], vm := .none },
  { cls := 18, slots := #[.int (-72)], vm := .none },
  { cls := 18, slots := #[.int (-71)], vm := .none },
  { cls := 18, slots := #[.int (-70)], vm := .none },
  { cls := 18, slots := #[.int (-69)], vm := .none },
  { cls := 18, slots := #[.int (-68)], vm := .none },
  { cls := 18, slots := #[.int (-67)], vm := .none },
  { cls := 18, slots := #[.int (-66)], vm := .none },
  { cls := 18, slots := #[.int (-65)], vm := .none },
  { cls := 18, slots := #[.int (-64)], vm := .none },
  { cls := 18, slots := #[.int (-63)], vm := .none },
  { cls := 18, slots := #[.int (-62)], vm := .none },
  { cls := 18, slots := #[.int (-61)], vm := .none },
  { cls := 18, slots := #[.int (-60)], vm := .none },
  { cls := 18, slots := #[.int (-59)], vm := .none },
  { cls := 18, slots := #[.int (-58)], vm := .none },
  { cls := 18, slots := #[.int (-57)], vm := .none },
  { cls := 18, slots := #[.int (-56)], vm := .none },
  { cls := 18, slots := #[.int (-55)], vm := .none },
  { cls := 18, slots := #[.int (-54)], vm := .none },
  { cls := 18, slots := #[.int (-53)], vm := .none },
  { cls := 18, slots := #[.int (-52)], vm := .none },
  { cls := 18, slots := #[.int (-51)], vm := .none },
  { cls := 18, slots := #[.int (-50)], vm := .none },
  { cls := 18, slots := #[.int (-49)], vm := .none },
  { cls := 18, slots := #[.int (-48)], vm := .none },
  { cls := 18, slots := #[.int (-47)], vm := .none },
  { cls := 18, slots := #[.int (-46)], vm := .none },
  { cls := 18, slots := #[.int (-45)], vm := .none },
  { cls := 18, slots := #[.int (-44)], vm := .none },
  { cls := 18, slots := #[.int (-43)], vm := .none },
  { cls := 18, slots := #[.int (-42)], vm := .none },
  { cls := 18, slots := #[.int (-41)], vm := .none },
  { cls := 18, slots := #[.int (-40)], vm := .none },
  { cls := 18, slots := #[.int (-39)], vm := .none },
  { cls := 18, slots := #[.int (-38)], vm := .none },
  { cls := 18, slots := #[.int (-37)], vm := .none },
  { cls := 18, slots := #[.int (-36)], vm := .none },
  { cls := 18, slots := #[.int (-35)], vm := .none },
  { cls := 18, slots := #[.int (-34)], vm := .none },
  { cls := 18, slots := #[.int (-33)], vm := .none },
  { cls := 18, slots := #[.int (-32)], vm := .none },
  { cls := 18, slots := #[.int (-31)], vm := .none },
  { cls := 18, slots := #[.int (-30)], vm := .none },
  { cls := 18, slots := #[.int (-29)], vm := .none },
  { cls := 18, slots := #[.int (-28)], vm := .none },
  { cls := 18, slots := #[.int (-27)], vm := .none },
  { cls := 18, slots := #[.int (-26)], vm := .none },
  { cls := 18, slots := #[.int (-25)], vm := .none },
  { cls := 18, slots := #[.int (-24)], vm := .none },
  { cls := 18, slots := #[.int (-23)], vm := .none },
  { cls := 18, slots := #[.int (-22)], vm := .none },
  { cls := 18, slots := #[.int (-21)], vm := .none },
  { cls := 18, slots := #[.int (-20)], vm := .none },
  { cls := 18, slots := #[.int (-19)], vm := .none },
  { cls := 18, slots := #[.int (-18)], vm := .none },
  { cls := 18, slots := #[.int (-17)], vm := .none },
  { cls := 18, slots := #[.int (-16)], vm := .none },
  { cls := 18, slots := #[.int (-15)], vm := .none },
  { cls := 18, slots := #[.int (-14)], vm := .none },
  { cls := 18, slots := #[.int (-13)], vm := .none },
  { cls := 18, slots := #[.int (-12)], vm := .none },
  { cls := 18, slots := #[.int (-11)], vm := .none },
  { cls := 18, slots := #[.int (-10)], vm := .none },
  { cls := 18, slots := #[.int (-9)], vm := .none },
  { cls := 18, slots := #[.int (-8)], vm := .none },
  { cls := 18, slots := #[.int (-7)], vm := .none },
  { cls := 18, slots := #[.int (-6)], vm := .none },
  { cls := 18, slots := #[.int (-5)], vm := .none },
  { cls := 18, slots := #[.int (-4)], vm := .none },
  { cls := 18, slots := #[.int (-3)], vm := .none },
  { cls := 18, slots := #[.int (-2)], vm := .none },
  { cls := 18, slots := #[.int (-1)], vm := .none },
  { cls := 18, slots := #[.int (0)], vm := .none },
  { cls := 18, slots := #[.int (1)], vm := .none },
  { cls := 18, slots := #[.int (2)], vm := .none },
  { cls := 18, slots := #[.int (3)], vm := .none },
  { cls := 18, slots := #[.int (4)], vm := .none },
  { cls := 18, slots := #[.int (5)], vm := .none },
  { cls := 18, slots := #[.int (6)], vm := .none },
  { cls := 18, slots := #[.int (7)], vm := .none },
  { cls := 18, slots := #[.int (8)], vm := .none },
  { cls := 18, slots := #[.int (9)], vm := .none },
  { cls := 18, slots := #[.int (10)], vm := .none },
  { cls := 18, slots := #[.int (11)], vm := .none },
  { cls := 18, slots := #[.int (12)], vm := .none },
  { cls := 18, slots := #[.int (13)], vm := .none },
  { cls := 18, slots := #[.int (14)], vm := .none },
  { cls := 18, slots := #[.int (15)], vm := .none },
  { cls := 18, slots := #[.int (16)], vm := .none },
  { cls := 18, slots := #[.int (17)], vm := .none },
  { cls := 18, slots := #[.int (18)], vm := .none },
  { cls := 18, slots := #[.int (19)], vm := .none },
  { cls := 18, slots := #[.int (20)], vm := .none },
  { cls := 18, slots := #[.int (21)], vm := .none },
  { cls := 18, slots := #[.int (22)], vm := .none },
  { cls := 18, slots := #[.int (23)], vm := .none },
  { cls := 18, slots := #[.int (24)], vm := .none },
  { cls := 18, slots := #[.int (25)], vm := .none },
  { cls := 18, slots := #[.int (26)], vm := .none },
  { cls := 18, slots := #[.int (27)], vm := .none },
  { cls := 18, slots := #[.int (28)], vm := .none },
  { cls := 18, slots := #[.int (29)], vm := .none },
  { cls := 18, slots := #[.int (30)], vm := .none },
  { cls := 18, slots := #[.int (31)], vm := .none },
  { cls := 18, slots := #[.int (32)], vm := .none },
  { cls := 18, slots := #[.int (33)], vm := .none },
  { cls := 18, slots := #[.int (34)], vm := .none },
  { cls := 18, slots := #[.int (35)], vm := .none },
  { cls := 18, slots := #[.int (36)], vm := .none },
  { cls := 18, slots := #[.int (37)], vm := .none },
  { cls := 18, slots := #[.int (38)], vm := .none },
  { cls := 18, slots := #[.int (39)], vm := .none },
  { cls := 18, slots := #[.int (40)], vm := .none },
  { cls := 18, slots := #[.int (41)], vm := .none },
  { cls := 18, slots := #[.int (42)], vm := .none },
  { cls := 18, slots := #[.int (43)], vm := .none },
  { cls := 18, slots := #[.int (44)], vm := .none },
  { cls := 18, slots := #[.int (45)], vm := .none },
  { cls := 18, slots := #[.int (46)], vm := .none },
  { cls := 18, slots := #[.int (47)], vm := .none },
  { cls := 18, slots := #[.int (48)], vm := .none },
  { cls := 18, slots := #[.int (49)], vm := .none },
  { cls := 18, slots := #[.int (50)], vm := .none },
  { cls := 18, slots := #[.int (51)], vm := .none },
  { cls := 18, slots := #[.int (52)], vm := .none },
  { cls := 18, slots := #[.int (53)], vm := .none },
  { cls := 18, slots := #[.int (54)], vm := .none },
  { cls := 18, slots := #[.int (55)], vm := .none },
  { cls := 18, slots := #[.int (56)], vm := .none },
  { cls := 18, slots := #[.int (57)], vm := .none },
  { cls := 18, slots := #[.int (58)], vm := .none },
  { cls := 18, slots := #[.int (59)], vm := .none },
  { cls := 18, slots := #[.int (60)], vm := .none },
  { cls := 18, slots := #[.int (61)], vm := .none },
  { cls := 18, slots := #[.int (62)], vm := .none },
  { cls := 18, slots := #[.int (63)], vm := .none },
  { cls := 18, slots := #[.int (64)], vm := .none },
  { cls := 18, slots := #[.int (65)], vm := .none },
  { cls := 18, slots := #[.int (66)], vm := .none },
  { cls := 18, slots := #[.int (67)], vm := .none },
  { cls := 18, slots := #[.int (68)], vm := .none },
  { cls := 18, slots := #[.int (69)], vm := .none },
  { cls := 18, slots := #[.int (70)], vm := .none },
  { cls := 18, slots := #[.int (71)], vm := .none },
  { cls := 18, slots := #[.int (72)], vm := .none },
  { cls := 18, slots := #[.int (73)], vm := .none },
  { cls := 18, slots := #[.int (74)], vm := .none },
  { cls := 18, slots := #[.int (75)], vm := .none },
  { cls := 18, slots := #[.int (76)], vm := .none },
  { cls := 18, slots := #[.int (77)], vm := .none },
  { cls := 18, slots := #[.int (78)], vm := .none },
  { cls := 18, slots := #[.int (79)], vm := .none },
  { cls := 18, slots := #[.int (80)], vm := .none },
  { cls := 18, slots := #[.int (81)], vm := .none },
  { cls := 18, slots := #[.int (82)], vm := .none },
  { cls := 18, slots := #[.int (83)], vm := .none },
  { cls := 18, slots := #[.int (84)], vm := .none },
  { cls := 18, slots := #[.int (85)], vm := .none },
  { cls := 18, slots := #[.int (86)], vm := .none },
  { cls := 18, slots := #[.int (87)], vm := .none },
  { cls := 18, slots := #[.int (88)], vm := .none },
  { cls := 18, slots := #[.int (89)], vm := .none },
  { cls := 18, slots := #[.int (90)], vm := .none },
  { cls := 18, slots := #[.int (91)], vm := .none },
  { cls := 18, slots := #[.int (92)], vm := .none },
  { cls := 18, slots := #[.int (93)], vm := .none },
  { cls := 18, slots := #[.int (94)], vm := .none },
  { cls := 18, slots := #[.int (95)], vm := .none },
  { cls := 18, slots := #[.int (96)], vm := .none },
  { cls := 18, slots := #[.int (97)], vm := .none },
  { cls := 18, slots := #[.int (98)], vm := .none },
  { cls := 18, slots := #[.int (99)], vm := .none },
  { cls := 18, slots := #[.int (100)], vm := .none },
  { cls := 18, slots := #[.int (101)], vm := .none },
  { cls := 18, slots := #[.int (102)], vm := .none },
  { cls := 18, slots := #[.int (103)], vm := .none },
  { cls := 18, slots := #[.int (104)], vm := .none },
  { cls := 18, slots := #[.int (105)], vm := .none },
  { cls := 18, slots := #[.int (106)], vm := .none },
  { cls := 18, slots := #[.int (107)], vm := .none },
  { cls := 18, slots := #[.int (108)], vm := .none },
  { cls := 18, slots := #[.int (109)], vm := .none },
  { cls := 18, slots := #[.int (110)], vm := .none },
  { cls := 18, slots := #[.int (111)], vm := .none },
  { cls := 18, slots := #[.int (112)], vm := .none },
  { cls := 18, slots := #[.int (113)], vm := .none },
  { cls := 18, slots := #[.int (114)], vm := .none },
  { cls := 18, slots := #[.int (115)], vm := .none },
  { cls := 18, slots := #[.int (116)], vm := .none },
  { cls := 18, slots := #[.int (117)], vm := .none },
  { cls := 18, slots := #[.int (118)], vm := .none },
  { cls := 18, slots := #[.int (119)], vm := .none },
  { cls := 18, slots := #[.int (120)], vm := .none },
  { cls := 18, slots := #[.int (121)], vm := .none },
  { cls := 18, slots := #[.int (122)], vm := .none },
  { cls := 18, slots := #[.int (123)], vm := .none },
  { cls := 18, slots := #[.int (124)], vm := .none },
  { cls := 18, slots := #[.int (125)], vm := .none },
  { cls := 18, slots := #[.int (126)], vm := .none },
  { cls := 18, slots := #[.int (127)], vm := .none },
  { cls := 6, slots := #[.null, .int 0, .int 0, .int 2147483647], vm := .none },
  { cls := 6, slots := #[.null, .int 1, .int 0, .int 100], vm := .none },
  { cls := 6, slots := #[.null, .int 2, .int 0, .int 100], vm := .none }]
def classes : Array Class := #[k0, k1, k2, k3, k4, k5, k6, k7, k8, k9, k10, k11, k12, k13, k14, k15, k16, k17, k18, k19, k20, k21, k22, k23, k24, k25, k26]
def interned : List (Array UInt16 × Addr) := []
def slotsUsed : Nat := 536
def theMethod : MethodId := ⟨1, 2⟩
def args0 : Array Value := #[.int 5, .int 6, .int 7, .int 8, .int 9, .int 1]
def aboutOver (below : List Frame) : State where
  vm := { classes := classes, interned := interned.toArray }
  heap := heap
  slotsUsed := slotsUsed
  threads := #[{ frames := .invoking theMethod args0 :: below }]
def below0 : List Frame := [.native { method := ⟨0, 0⟩, args := #[] }]
def about1 : State := aboutOver below0
def p0 : Program := .bare "" "" ""
def e0 : Env := launch0.env 0 0 0
theorem w_frames : about1.frames = Frame.invoking theMethod args0 :: below0 := rfl
set_option maxRecDepth 65536 in
theorem w_args : argsFit about1.vm theMethod args0 = true := by decide +kernel
set_option maxRecDepth 65536 in
theorem w_heap : heapFits about1 = true := by decide +kernel
set_option maxRecDepth 65536 in
theorem w_runnable : about1.curStatus? = some .runnable := by decide +kernel
set_option maxRecDepth 65536 in
theorem w_alone : about1.alone = true := by decide +kernel
set_option maxRecDepth 65536 in
theorem w_named : about1.methodNamed? x = some theMethod := by decide +kernel
set_option maxRecDepth 65536 in
theorem w_hears : about1.hears theMethod below0 = true := by decide +kernel
set_option maxRecDepth 65536 in
theorem w_ripe : about1.ripe theMethod args0 below0 = true := by decide +kernel
theorem w_running : about1.status = .running := rfl
set_option maxRecDepth 65536 in
theorem w_room : about1.hasRoom e0.platform room_1 = true :=
  launch0.hasRoom_least _ room_1 (by decide +kernel) (by decide +kernel) (by decide +kernel) (by decide +kernel) (by decide +kernel) (by decide +kernel)
theorem allAtoms_all (ts : List Jvm.Cond) (a : Array Jvm.Value) (st : Jvm.State) : (allAtoms ts).before a st = ts.all (fun c => c.before a st) := by
  induction ts with
  | nil => rfl
  | cons c t ih =>
    show (Jvm.Cond.and c (allAtoms t)).before a st = _
    rw [Jvm.Cond.before_and, ih, List.all_cons]
def words1 : List Jvm.Cond := Jvm.Cond.code x code maxLocals ret :: tables_1
/-- a 'code' word, met by the world's own term for the bytes: nothing is compared byte by byte -/
theorem code_word {y : MethodName} {bytes : ByteArray} {mx : Nat} {rt : Option FieldType} {a : Array Value} {s : State} {m : MethodId} {meth : Method} {c : Code} (h1 : s.methodNamed? y = some m) (h2 : s.vm.method? m = some meth) (h3 : meth.code = some c) (h4 : c.code = bytes)
    (h5 : (c.maxLocals == mx && c.exceptionTable.isEmpty && decide (c.maxStack ≤ mostOperands) && decide (meth.sig.returnType = rt) && !meth.locks && decide (parseMethodDescriptor y.desc = some meth.sig)) = true) : (Jvm.Cond.code y bytes mx rt).before a s = true := by
  simp only [Bool.and_eq_true, beq_iff_eq, Bool.not_eq_true', decide_eq_true_eq] at h5
  obtain ⟨⟨⟨⟨⟨g1, g2⟩, g3⟩, g4⟩, g5⟩, g6⟩ := h5
  simp [Cond.before, Cond.holds, Cond.value, h1, h2, h3, h4, g1, g2, g3, g4, g5, g6]
def isCode : Jvm.Cond → Bool
  | .code _ _ _ _ => true
  | _ => false
theorem all_split {L : List Jvm.Cond} {P : Jvm.Cond → Bool} (h1 : L.all (fun c => isCode c || P c) = true) (h2 : ∀ c ∈ L.filter isCode, P c = true) : L.all P = true := by
  refine List.all_eq_true.mpr fun c hc => ?_
  have h := List.all_eq_true.mp h1 c hc
  rcases Bool.eq_false_or_eq_true (isCode c) with hi | hi
  · exact h2 c (List.mem_filter.mpr ⟨hc, hi⟩)
  · simpa [hi] using h
set_option maxRecDepth 65536 in
theorem w_c0 : (Jvm.Cond.code x code maxLocals ret).before args0 about1 = true := code_word (m := ⟨1, 2⟩) (meth := k1m2) (c := k1c2) (by decide +kernel) rfl rfl rfl (by decide +kernel)
set_option maxRecDepth 65536 in
theorem w_c1 : (Jvm.Cond.code ({ cls := "com/example/bote/bote/service/SendQueueIsFullPinLaw", name := "pick", desc := "(I)Lcom/example/bote/bote/service/SendQueue$Kind;" } : Jvm.MethodName) method_2_code (2 : Nat) (Option.some (Jvm.ClassFile.FieldType.object "com/example/bote/bote/service/SendQueue$Kind"))).before args0 about1 = true := code_word (m := ⟨1, 1⟩) (meth := k1m1) (c := k1c1) (by decide +kernel) rfl rfl rfl (by decide +kernel)
set_option maxRecDepth 65536 in
theorem w_c2 : (Jvm.Cond.code ({ cls := "com/example/bote/bote/service/SendQueue", name := "<init>", desc := "()V" } : Jvm.MethodName) prog_25_method_1_code (1 : Nat) (Option.none : Option Jvm.ClassFile.FieldType)).before args0 about1 = true := code_word (m := ⟨7, 0⟩) (meth := k7m0) (c := k7c0) (by decide +kernel) rfl rfl rfl (by decide +kernel)
set_option maxRecDepth 65536 in
theorem w_c3 : (Jvm.Cond.code ({ cls := "java/lang/Object", name := "<init>", desc := "()V" } : Jvm.MethodName) object_method_1_code (1 : Nat) (Option.none : Option Jvm.ClassFile.FieldType)).before args0 about1 = true := code_word (m := ⟨0, 0⟩) (meth := k0m0) (c := k0c0) (by decide +kernel) rfl rfl rfl (by decide +kernel)
set_option maxRecDepth 65536 in
theorem w_c4 : (Jvm.Cond.code ({ cls := "java/util/ArrayDeque", name := "<init>", desc := "()V" } : Jvm.MethodName) jdk_21_method_3_code (1 : Nat) (Option.none : Option Jvm.ClassFile.FieldType)).before args0 about1 = true := code_word (m := ⟨15, 0⟩) (meth := k15m0) (c := k15c0) (by decide +kernel) rfl rfl rfl (by decide +kernel)
set_option maxRecDepth 65536 in
theorem w_c5 : (Jvm.Cond.code ({ cls := "java/util/AbstractCollection", name := "<init>", desc := "()V" } : Jvm.MethodName) jdk_22_method_1_code (1 : Nat) (Option.none : Option Jvm.ClassFile.FieldType)).before args0 about1 = true := code_word (m := ⟨10, 0⟩) (meth := k10m0) (c := k10c0) (by decide +kernel) rfl rfl rfl (by decide +kernel)
set_option maxRecDepth 65536 in
theorem w_c6 : (Jvm.Cond.code ({ cls := "com/example/bote/bote/service/SendQueue$Kind", name := "values", desc := "()[Lcom/example/bote/bote/service/SendQueue$Kind;" } : Jvm.MethodName) prog_26_method_1_code (0 : Nat) (Option.some (Jvm.ClassFile.FieldType.array (Jvm.ClassFile.FieldType.object "com/example/bote/bote/service/SendQueue$Kind")))).before args0 about1 = true := code_word (m := ⟨6, 0⟩) (meth := k6m0) (c := k6c0) (by decide +kernel) rfl rfl rfl (by decide +kernel)
set_option maxRecDepth 65536 in
theorem w_c7 : (Jvm.Cond.code ({ cls := "com/example/bote/bote/service/SendQueue", name := "isFull", desc := "(Lcom/example/bote/bote/service/SendQueue$Kind;)Z" } : Jvm.MethodName) prog_25_method_3_code (2 : Nat) (Option.some Jvm.ClassFile.FieldType.boolean)).before args0 about1 = true := code_word (m := ⟨7, 2⟩) (meth := k7m2) (c := k7c2) (by decide +kernel) rfl rfl rfl (by decide +kernel)
set_option maxRecDepth 65536 in
theorem w_c8 : (Jvm.Cond.code ({ cls := "java/lang/Enum", name := "ordinal", desc := "()I" } : Jvm.MethodName) jdk_37_method_2_code (1 : Nat) (Option.some Jvm.ClassFile.FieldType.int)).before args0 about1 = true := code_word (m := ⟨5, 0⟩) (meth := k5m0) (c := k5c0) (by decide +kernel) rfl rfl rfl (by decide +kernel)
set_option maxRecDepth 65536 in
theorem w_c9 : (Jvm.Cond.code ({ cls := "java/lang/Integer", name := "valueOf", desc := "(I)Ljava/lang/Integer;" } : Jvm.MethodName) jdk_33_method_22_code (1 : Nat) (Option.some (Jvm.ClassFile.FieldType.object "java/lang/Integer"))).before args0 about1 = true := code_word (m := ⟨18, 0⟩) (meth := k18m0) (c := k18c0) (by decide +kernel) rfl rfl rfl (by decide +kernel)
set_option maxRecDepth 65536 in
theorem w_c10 : (Jvm.Cond.code ({ cls := "com/example/bote/bote/service/SendQueue", name := "add", desc := "(Ljava/lang/Object;Lcom/example/bote/bote/service/SendQueue$Kind;)Z" } : Jvm.MethodName) prog_25_method_2_code (4 : Nat) (Option.some Jvm.ClassFile.FieldType.boolean)).before args0 about1 = true := code_word (m := ⟨7, 1⟩) (meth := k7m1) (c := k7c1) (by decide +kernel) rfl rfl rfl (by decide +kernel)
set_option maxRecDepth 65536 in
theorem w_c11 : (Jvm.Cond.code ({ cls := "java/util/ArrayDeque", name := "add", desc := "(Ljava/lang/Object;)Z" } : Jvm.MethodName) jdk_21_method_28_code (2 : Nat) (Option.some Jvm.ClassFile.FieldType.boolean)).before args0 about1 = true := code_word (m := ⟨15, 6⟩) (meth := k15m6) (c := k15c6) (by decide +kernel) rfl rfl rfl (by decide +kernel)
set_option maxRecDepth 65536 in
theorem w_c12 : (Jvm.Cond.code ({ cls := "java/util/ArrayDeque", name := "addLast", desc := "(Ljava/lang/Object;)V" } : Jvm.MethodName) jdk_21_method_13_code (3 : Nat) (Option.none : Option Jvm.ClassFile.FieldType)).before args0 about1 = true := code_word (m := ⟨15, 3⟩) (meth := k15m3) (c := k15c3) (by decide +kernel) rfl rfl rfl (by decide +kernel)
set_option maxRecDepth 65536 in
theorem w_c13 : (Jvm.Cond.code ({ cls := "java/util/ArrayDeque", name := "inc", desc := "(II)I" } : Jvm.MethodName) jdk_21_method_6_code (2 : Nat) (Option.some Jvm.ClassFile.FieldType.int)).before args0 about1 = true := code_word (m := ⟨15, 1⟩) (meth := k15m1) (c := k15c1) (by decide +kernel) rfl rfl rfl (by decide +kernel)
set_option maxRecDepth 65536 in
theorem w_c14 : (Jvm.Cond.code ({ cls := "com/example/bote/bote/service/SendQueue", name := "poll", desc := "()Ljava/lang/Object;" } : Jvm.MethodName) prog_25_method_5_code (2 : Nat) (Option.some (Jvm.ClassFile.FieldType.object "java/lang/Object"))).before args0 about1 = true := code_word (m := ⟨7, 3⟩) (meth := k7m3) (c := k7c3) (by decide +kernel) rfl rfl rfl (by decide +kernel)
set_option maxRecDepth 65536 in
theorem w_c15 : (Jvm.Cond.code ({ cls := "java/util/ArrayDeque", name := "poll", desc := "()Ljava/lang/Object;" } : Jvm.MethodName) jdk_21_method_31_code (1 : Nat) (Option.some (Jvm.ClassFile.FieldType.object "java/lang/Object"))).before args0 about1 = true := code_word (m := ⟨15, 8⟩) (meth := k15m8) (c := k15c8) (by decide +kernel) rfl rfl rfl (by decide +kernel)
set_option maxRecDepth 65536 in
theorem w_c16 : (Jvm.Cond.code ({ cls := "java/util/ArrayDeque", name := "pollFirst", desc := "()Ljava/lang/Object;" } : Jvm.MethodName) jdk_21_method_20_code (4 : Nat) (Option.some (Jvm.ClassFile.FieldType.object "java/lang/Object"))).before args0 about1 = true := code_word (m := ⟨15, 5⟩) (meth := k15m5) (c := k15c5) (by decide +kernel) rfl rfl rfl (by decide +kernel)
set_option maxRecDepth 65536 in
theorem w_c17 : (Jvm.Cond.code ({ cls := "java/util/ArrayDeque", name := "elementAt", desc := "([Ljava/lang/Object;I)Ljava/lang/Object;" } : Jvm.MethodName) jdk_21_method_10_code (2 : Nat) (Option.some (Jvm.ClassFile.FieldType.object "java/lang/Object"))).before args0 about1 = true := code_word (m := ⟨15, 2⟩) (meth := k15m2) (c := k15c2) (by decide +kernel) rfl rfl rfl (by decide +kernel)
set_option maxRecDepth 65536 in
theorem w_c18 : (Jvm.Cond.code ({ cls := "java/util/ArrayDeque", name := "remove", desc := "()Ljava/lang/Object;" } : Jvm.MethodName) jdk_21_method_30_code (1 : Nat) (Option.some (Jvm.ClassFile.FieldType.object "java/lang/Object"))).before args0 about1 = true := code_word (m := ⟨15, 7⟩) (meth := k15m7) (c := k15c7) (by decide +kernel) rfl rfl rfl (by decide +kernel)
set_option maxRecDepth 65536 in
theorem w_c19 : (Jvm.Cond.code ({ cls := "java/util/ArrayDeque", name := "removeFirst", desc := "()Ljava/lang/Object;" } : Jvm.MethodName) jdk_21_method_18_code (2 : Nat) (Option.some (Jvm.ClassFile.FieldType.object "java/lang/Object"))).before args0 about1 = true := code_word (m := ⟨15, 4⟩) (meth := k15m4) (c := k15c4) (by decide +kernel) rfl rfl rfl (by decide +kernel)
set_option maxRecDepth 65536 in
theorem w_c20 : (Jvm.Cond.code ({ cls := "java/lang/Integer", name := "<init>", desc := "(I)V" } : Jvm.MethodName) jdk_33_method_23_code (2 : Nat) (Option.none : Option Jvm.ClassFile.FieldType)).before args0 about1 = true := code_word (m := ⟨18, 1⟩) (meth := k18m1) (c := k18c1) (by decide +kernel) rfl rfl rfl (by decide +kernel)
set_option maxRecDepth 65536 in
theorem w_c21 : (Jvm.Cond.code ({ cls := "java/lang/Number", name := "<init>", desc := "()V" } : Jvm.MethodName) jdk_18_method_1_code (1 : Nat) (Option.none : Option Jvm.ClassFile.FieldType)).before args0 about1 = true := code_word (m := ⟨16, 0⟩) (meth := k16m0) (c := k16c0) (by decide +kernel) rfl rfl rfl (by decide +kernel)
def codes1 : List Jvm.Cond := [Jvm.Cond.code x code maxLocals ret, Jvm.Cond.code ({ cls := "com/example/bote/bote/service/SendQueueIsFullPinLaw", name := "pick", desc := "(I)Lcom/example/bote/bote/service/SendQueue$Kind;" } : Jvm.MethodName) method_2_code (2 : Nat) (Option.some (Jvm.ClassFile.FieldType.object "com/example/bote/bote/service/SendQueue$Kind")), Jvm.Cond.code ({ cls := "com/example/bote/bote/service/SendQueue", name := "<init>", desc := "()V" } : Jvm.MethodName) prog_25_method_1_code (1 : Nat) (Option.none : Option Jvm.ClassFile.FieldType), Jvm.Cond.code ({ cls := "java/lang/Object", name := "<init>", desc := "()V" } : Jvm.MethodName) object_method_1_code (1 : Nat) (Option.none : Option Jvm.ClassFile.FieldType), Jvm.Cond.code ({ cls := "java/util/ArrayDeque", name := "<init>", desc := "()V" } : Jvm.MethodName) jdk_21_method_3_code (1 : Nat) (Option.none : Option Jvm.ClassFile.FieldType), Jvm.Cond.code ({ cls := "java/util/AbstractCollection", name := "<init>", desc := "()V" } : Jvm.MethodName) jdk_22_method_1_code (1 : Nat) (Option.none : Option Jvm.ClassFile.FieldType), Jvm.Cond.code ({ cls := "com/example/bote/bote/service/SendQueue$Kind", name := "values", desc := "()[Lcom/example/bote/bote/service/SendQueue$Kind;" } : Jvm.MethodName) prog_26_method_1_code (0 : Nat) (Option.some (Jvm.ClassFile.FieldType.array (Jvm.ClassFile.FieldType.object "com/example/bote/bote/service/SendQueue$Kind"))), Jvm.Cond.code ({ cls := "com/example/bote/bote/service/SendQueue", name := "isFull", desc := "(Lcom/example/bote/bote/service/SendQueue$Kind;)Z" } : Jvm.MethodName) prog_25_method_3_code (2 : Nat) (Option.some Jvm.ClassFile.FieldType.boolean), Jvm.Cond.code ({ cls := "java/lang/Enum", name := "ordinal", desc := "()I" } : Jvm.MethodName) jdk_37_method_2_code (1 : Nat) (Option.some Jvm.ClassFile.FieldType.int), Jvm.Cond.code ({ cls := "java/lang/Integer", name := "valueOf", desc := "(I)Ljava/lang/Integer;" } : Jvm.MethodName) jdk_33_method_22_code (1 : Nat) (Option.some (Jvm.ClassFile.FieldType.object "java/lang/Integer")), Jvm.Cond.code ({ cls := "com/example/bote/bote/service/SendQueue", name := "add", desc := "(Ljava/lang/Object;Lcom/example/bote/bote/service/SendQueue$Kind;)Z" } : Jvm.MethodName) prog_25_method_2_code (4 : Nat) (Option.some Jvm.ClassFile.FieldType.boolean), Jvm.Cond.code ({ cls := "java/util/ArrayDeque", name := "add", desc := "(Ljava/lang/Object;)Z" } : Jvm.MethodName) jdk_21_method_28_code (2 : Nat) (Option.some Jvm.ClassFile.FieldType.boolean), Jvm.Cond.code ({ cls := "java/util/ArrayDeque", name := "addLast", desc := "(Ljava/lang/Object;)V" } : Jvm.MethodName) jdk_21_method_13_code (3 : Nat) (Option.none : Option Jvm.ClassFile.FieldType), Jvm.Cond.code ({ cls := "java/util/ArrayDeque", name := "inc", desc := "(II)I" } : Jvm.MethodName) jdk_21_method_6_code (2 : Nat) (Option.some Jvm.ClassFile.FieldType.int), Jvm.Cond.code ({ cls := "com/example/bote/bote/service/SendQueue", name := "poll", desc := "()Ljava/lang/Object;" } : Jvm.MethodName) prog_25_method_5_code (2 : Nat) (Option.some (Jvm.ClassFile.FieldType.object "java/lang/Object")), Jvm.Cond.code ({ cls := "java/util/ArrayDeque", name := "poll", desc := "()Ljava/lang/Object;" } : Jvm.MethodName) jdk_21_method_31_code (1 : Nat) (Option.some (Jvm.ClassFile.FieldType.object "java/lang/Object")), Jvm.Cond.code ({ cls := "java/util/ArrayDeque", name := "pollFirst", desc := "()Ljava/lang/Object;" } : Jvm.MethodName) jdk_21_method_20_code (4 : Nat) (Option.some (Jvm.ClassFile.FieldType.object "java/lang/Object")), Jvm.Cond.code ({ cls := "java/util/ArrayDeque", name := "elementAt", desc := "([Ljava/lang/Object;I)Ljava/lang/Object;" } : Jvm.MethodName) jdk_21_method_10_code (2 : Nat) (Option.some (Jvm.ClassFile.FieldType.object "java/lang/Object")), Jvm.Cond.code ({ cls := "java/util/ArrayDeque", name := "remove", desc := "()Ljava/lang/Object;" } : Jvm.MethodName) jdk_21_method_30_code (1 : Nat) (Option.some (Jvm.ClassFile.FieldType.object "java/lang/Object")), Jvm.Cond.code ({ cls := "java/util/ArrayDeque", name := "removeFirst", desc := "()Ljava/lang/Object;" } : Jvm.MethodName) jdk_21_method_18_code (2 : Nat) (Option.some (Jvm.ClassFile.FieldType.object "java/lang/Object")), Jvm.Cond.code ({ cls := "java/lang/Integer", name := "<init>", desc := "(I)V" } : Jvm.MethodName) jdk_33_method_23_code (2 : Nat) (Option.none : Option Jvm.ClassFile.FieldType), Jvm.Cond.code ({ cls := "java/lang/Number", name := "<init>", desc := "()V" } : Jvm.MethodName) jdk_18_method_1_code (1 : Nat) (Option.none : Option Jvm.ClassFile.FieldType)]
set_option maxRecDepth 65536 in
theorem codes_eq : words1.filter isCode = codes1 := rfl
theorem w_codes : ∀ c ∈ words1.filter isCode, c.before args0 about1 = true := by
  rw [codes_eq]
  intro c hc
  simp only [codes1, List.mem_cons, List.not_mem_nil, or_false] at hc
  rcases hc with rfl | rfl | rfl | rfl | rfl | rfl | rfl | rfl | rfl | rfl | rfl | rfl | rfl | rfl | rfl | rfl | rfl | rfl | rfl | rfl | rfl | rfl
  · exact w_c0
  · exact w_c1
  · exact w_c2
  · exact w_c3
  · exact w_c4
  · exact w_c5
  · exact w_c6
  · exact w_c7
  · exact w_c8
  · exact w_c9
  · exact w_c10
  · exact w_c11
  · exact w_c12
  · exact w_c13
  · exact w_c14
  · exact w_c15
  · exact w_c16
  · exact w_c17
  · exact w_c18
  · exact w_c19
  · exact w_c20
  · exact w_c21
set_option maxRecDepth 65536 in
theorem w_t1 : (words1.take 24).all (fun c => isCode c || c.before args0 about1) = true := by decide +kernel
set_option maxRecDepth 65536 in
theorem w_t2 : ((words1.drop 24).take 24).all (fun c => isCode c || c.before args0 about1) = true := by decide +kernel
set_option maxRecDepth 65536 in
theorem w_t3 : (((words1.drop 24).drop 24).take 24).all (fun c => isCode c || c.before args0 about1) = true := by decide +kernel
set_option maxRecDepth 65536 in
theorem w_t4 : ((((words1.drop 24).drop 24).drop 24).take 24).all (fun c => isCode c || c.before args0 about1) = true := by decide +kernel
set_option maxRecDepth 65536 in
theorem w_t5 : (((((words1.drop 24).drop 24).drop 24).drop 24).take 24).all (fun c => isCode c || c.before args0 about1) = true := by decide +kernel
set_option maxRecDepth 65536 in
theorem w_t6 : ((((((words1.drop 24).drop 24).drop 24).drop 24).drop 24).take 24).all (fun c => isCode c || c.before args0 about1) = true := by decide +kernel
set_option maxRecDepth 65536 in
theorem w_t7 : ((((((words1.drop 24).drop 24).drop 24).drop 24).drop 24).drop 24).all (fun c => isCode c || c.before args0 about1) = true := by decide +kernel
theorem w_tables : (allAtoms (Jvm.Cond.code x code maxLocals ret :: tables_1)).before args0 about1 = true := by
  rw [allAtoms_all]
  show words1.all (fun c => c.before args0 about1) = true
  refine all_split ?_ w_codes
  rw [← List.take_append_drop 24 words1, List.all_append, w_t1, ← List.take_append_drop 24 (words1.drop 24), List.all_append, w_t2, ← List.take_append_drop 24 ((words1.drop 24).drop 24), List.all_append, w_t3, ← List.take_append_drop 24 (((words1.drop 24).drop 24).drop 24), List.all_append, w_t4, ← List.take_append_drop 24 ((((words1.drop 24).drop 24).drop 24).drop 24), List.all_append, w_t5, ← List.take_append_drop 24 (((((words1.drop 24).drop 24).drop 24).drop 24).drop 24), List.all_append, w_t6, w_t7]
  rfl
set_option maxRecDepth 65536 in
theorem w_rest : rest_1_c.before args0 about1 = true := by decide +kernel
set_option maxRecDepth 65536 in
theorem w_case : (Jvm.Cond.and given_1 narrow_1).before args0 about1 = true := by decide +kernel
theorem w_applies : (headSpec (Jvm.Cond.code x code maxLocals ret :: tables_1) room_1).applies x e0.platform about1 = true :=
  (Spec.applies_iff w_frames).mpr ⟨w_running, w_runnable, w_alone, w_named, w_hears, w_ripe, w_room, w_tables⟩
theorem atStart : AtStart classFile x code maxLocals ret World_1 tables_1 room_1 Calls_1 rest_1 Pre_1 launch0 p0 e0 about1 theMethod args0 below0 :=
  ⟨lists_1, trivial, launch0.admits_env _ _ _, launch0.least_env, fairChoices_fair.cas, fairChoices_fair.clock, w_frames, w_args, w_heap, w_applies, trivial, w_rest, w_case⟩
end start1
theorem witness_1 : WitnessClaimed_1 := ⟨start1.p0, start1.e0, start1.about1, start1.theMethod, start1.args0, start1.below0, start1.atStart⟩
end Jvm.Pilot.@@N@@
