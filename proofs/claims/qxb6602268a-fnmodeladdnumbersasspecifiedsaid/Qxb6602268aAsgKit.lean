/- What assigns does, plainly; and worlds that differ in two old blocks alone. -/
import Derived.Test.Qxb6602268aNum
namespace Go.Proofs.Qxb6602268a.M
open Go.ChangeShapes Go.WideShapes Go.ChangeAt Go.RowKit Go.Maps
set_option linter.unusedVariables false

/-- the two numberings -/
structure NS where
  kf : ByteArray → Option Int
  ks : Nat
  vf : ByteArray → Option Int
  vs : Nat

/-- one key, with the text that it points to -/
noncomputable def nstep (tx : ByteArray → Option ByteArray) (st : NS) (x : ByteArray) : NS :=
  match tx x with
  | none => ⟨numF st.kf st.ks 0 x, numS st.kf st.ks x, st.vf, st.vs⟩
  | some t => ⟨numF st.kf st.ks 0 x, numS st.kf st.ks x, numF st.vf st.vs 1 t, numS st.vf st.vs t⟩
def npair (tx : ByteArray → Option ByteArray) (st : NS) (x : ByteArray) : Int × Int :=
  (numV st.kf st.ks 0 x, match tx x with | none => 0 | some t => numV st.vf st.vs 1 t)
noncomputable def nrun (tx : ByteArray → Option ByteArray) : NS → List ByteArray → NS
  | st, [] => st
  | st, x :: r => nrun tx (nstep tx st x) r
noncomputable def nout (tx : ByteArray → Option ByteArray) : NS → List ByteArray → List (Int × Int)
  | _, [] => []
  | st, x :: r => npair tx st x :: nout tx (nstep tx st x) r

theorem nrun_snoc (tx : ByteArray → Option ByteArray) (x : ByteArray) : ∀ (l : List ByteArray) (st : NS), nrun tx st (l ++ [x]) = nstep tx (nrun tx st l) x
  | [], _ => rfl
  | y :: r, st => nrun_snoc tx x r (nstep tx st y)
theorem nout_snoc (tx : ByteArray → Option ByteArray) (x : ByteArray) : ∀ (l : List ByteArray) (st : NS), nout tx st (l ++ [x]) = nout tx st l ++ [npair tx (nrun tx st l) x]
  | [], _ => rfl
  | y :: r, st => by
    show npair tx st y :: nout tx (nstep tx st y) (r ++ [x]) = _
    rw [nout_snoc tx x r]
    rfl
theorem nout_length (tx : ByteArray → Option ByteArray) : ∀ (l : List ByteArray) (st : NS), (nout tx st l).length = l.length
  | [], _ => rfl
  | y :: r, st => by
    show (nout tx (nstep tx st y) r).length + 1 = _
    rw [nout_length tx r]; rfl

theorem numS_le (F : ByteArray → Option Int) (sz : Nat) (x : ByteArray) : numS F sz x ≤ sz + 1 := by unfold numS; split <;> omega
theorem nstep_ks (tx : ByteArray → Option ByteArray) (st : NS) (x : ByteArray) : (nstep tx st x).ks ≤ st.ks + 1 := by
  have := numS_le st.kf st.ks x
  unfold nstep; cases tx x <;> exact this
theorem nstep_vs (tx : ByteArray → Option ByteArray) (st : NS) (x : ByteArray) : (nstep tx st x).vs ≤ st.vs + 1 := by
  unfold nstep
  cases tx x with
  | none => exact Nat.le_succ _
  | some t => exact numS_le st.vf st.vs t
theorem nrun_ks (tx : ByteArray → Option ByteArray) : ∀ (l : List ByteArray) (st : NS), (nrun tx st l).ks ≤ st.ks + l.length
  | [], _ => Nat.le_refl _
  | y :: r, st => by
    have := nrun_ks tx r (nstep tx st y)
    have := nstep_ks tx st y
    show (nrun tx (nstep tx st y) r).ks ≤ _
    simp only [List.length_cons]
    omega
theorem nrun_vs (tx : ByteArray → Option ByteArray) : ∀ (l : List ByteArray) (st : NS), (nrun tx st l).vs ≤ st.vs + l.length
  | [], _ => Nat.le_refl _
  | y :: r, st => by
    have := nrun_vs tx r (nstep tx st y)
    have := nstep_vs tx st y
    show (nrun tx (nstep tx st y) r).vs ≤ _
    simp only [List.length_cons]
    omega

/-- the cells of a row of pairs -/
def flat (ps : List (Int × Int)) : List Value := ps.flatMap fun p => [.int .i32 p.1, .int .i32 p.2]
theorem flat_snoc (ps : List (Int × Int)) (p : Int × Int) : flat (ps ++ [p]) = flat ps ++ [.int .i32 p.1, .int .i32 p.2] := by simp [flat]
theorem flat_length : ∀ ps : List (Int × Int), (flat ps).length = ps.length * 2
  | [] => rfl
  | p :: r => by
    have := flat_length r
    simp only [flat, List.flatMap_cons, List.length_append, List.length_cons, List.length_nil] at this ⊢
    omega

/-- Of the old blocks but kb and vb have turned. -/
structure Two (w w' : World) (kb vb : Nat) : Prop where
  os : w'.os = w.os
  tape : w'.tape = w.tape
  output : w'.output = w.output
  size : w.heap.size ≤ w'.heap.size
  block : ∀ i, i < w.heap.size → i ≠ kb → i ≠ vb → w'.heap[i]? = w.heap[i]?

theorem Two.refl (w : World) (kb vb : Nat) : Two w w kb vb := ⟨rfl, rfl, rfl, Nat.le_refl _, fun _ _ _ _ => rfl⟩
theorem Two.grown {w w1 w2 : World} {kb vb : Nat} (h : Two w w1 kb vb) {row : Option Nat} (hg : w1.grownBy w2 row) (hr : ∀ j, row = some j → j = kb ∨ j = vb ∨ w.heap.size ≤ j) : Two w w2 kb vb :=
  ⟨hg.os.trans h.os, hg.tape.trans h.tape, hg.output.trans h.output, Nat.le_trans h.size hg.size, fun i hi h1 h2 => (hg.block i (Nat.lt_of_lt_of_le hi h.size) (fun e => by
    rcases hr i e.symm with r | r | r
    · exact h1 r
    · exact h2 r
    · omega)).trans (h.block i hi h1 h2)⟩
theorem Two.alloc {w w1 : World} {kb vb : Nat} (h : Two w w1 kb vb) (o : Obj) : Two w (w1.alloc o) kb vb := h.grown (World.grownBy_alloc w1 o none) (fun j e => by cases e)
theorem Two.setCell {w w1 : World} {kb vb : Nat} (h : Two w w1 kb vb) {a : Addr} (ha : w.heap.size ≤ a.block) (v : Value) : Two w (w1.setCell a v) kb vb :=
  ⟨h.os, h.tape, h.output, by rw [World.size_setCell]; exact h.size, fun i hi h1 h2 => (Deep.blk_setCell_other _ _ _ _ (by omega)).trans (h.block i hi h1 h2)⟩
theorem Two.drewN {w w1 : World} {kb vb : Nat} (h : Two w w1 kb vb) {q : Nat} : Two w (w1.drewN q) kb vb := ⟨h.os, h.tape, h.output, h.size, h.block⟩
theorem Two.drew {w w1 : World} {kb vb : Nat} (h : Two w w1 kb vb) : Two w w1.drew kb vb := ⟨h.os, h.tape, h.output, h.size, h.block⟩
theorem Two.cell {w w1 : World} {kb vb : Nat} (h : Two w w1 kb vb) {a : Addr} {v : Value} (hc : w.cell? a = some v) (h1 : a.block ≠ kb) (h2 : a.block ≠ vb) : w1.cell? a = some v := by
  rw [← hc]; exact World.cell?_of_block (h.block _ (lt_of_cell hc) h1 h2)
theorem Two.trans {w w1 w2 : World} {kb vb : Nat} (h : Two w w1 kb vb) (k : Two w1 w2 kb vb) : Two w w2 kb vb :=
  ⟨k.os.trans h.os, k.tape.trans h.tape, k.output.trans h.output, Nat.le_trans h.size k.size, fun i hi h1 h2 => (k.block i (Nat.lt_of_lt_of_le hi h.size) h1 h2).trans (h.block i hi h1 h2)⟩
/-- from a world in which the two are new -/
theorem Two.below {w0 w w1 : World} {B kb vb : Nat} (h : Two w w1 kb vb) (hb : Below B w0 w) (hk : B ≤ kb) (hv : B ≤ vb) (hB : B ≤ w.heap.size) : Below B w0 w1 :=
  ⟨h.os.trans hb.os, h.tape.trans hb.tape, h.output.trans hb.output, Nat.le_trans hb.size h.size, fun i hi => (h.block i (by omega) (by omega) (by omega)).trans (hb.block i hi)⟩

/-- no cell lies in a map's block -/
theorem Tab.no_cell {w : World} {b s : Nat} {f : ByteArray → Option Value} (h : Tab 9 slit w b f s) {a : Addr} {v : Value} (hc : w.cell? a = some v) : a.block ≠ b := by
  intro e
  obtain ⟨D, ⟨es, clock, hb, _⟩, _⟩ := h
  rw [← e] at hb
  simp [World.cell?, hb] at hc

end Go.Proofs.Qxb6602268a.M
