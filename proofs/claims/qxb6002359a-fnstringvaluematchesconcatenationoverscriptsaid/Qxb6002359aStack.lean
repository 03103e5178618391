/- The law's own stack of entries. -/
import Derived.Test.Qxb6002359aGuards
namespace Go.Proofs.Qxb6002359a.M
open Go.RowKit Go.ChangeShapes Go.WideShapes Go.ChangeAt
set_option linter.unusedVariables false
set_option linter.unusedSimpArgs false

abbrev Ent := Nat × BA × Nat
def ent (e : Ent) : List Value := [.pointer (some ⟨e.1, 0, none⟩), .string e.2.1, .int .i64 e.2.2]
def flat3 (E : List Ent) : List Value := E.flatMap ent
theorem flat3_snoc (E : List Ent) (e : Ent) : flat3 (E ++ [e]) = flat3 E ++ ent e := by simp [flat3]
theorem flat3_length : ∀ E : List Ent, (flat3 E).length = E.length * 3
  | [] => rfl
  | e :: r => by
    have := flat3_length r
    simp only [flat3, List.flatMap_cons, List.length_append, ent, List.length_cons, List.length_nil] at this ⊢
    omega
theorem flat3_get : ∀ (E : List Ent) (i : Nat) (h : i < E.length), (flat3 E)[i * 3]? = some (.pointer (some ⟨E[i].1, 0, none⟩)) ∧ (flat3 E)[i * 3 + 1]? = some (.string E[i].2.1) ∧ (flat3 E)[i * 3 + 2]? = some (.int .i64 E[i].2.2)
  | [], i, h => by simp at h
  | e :: r, 0, h => by simp [flat3, ent]
  | e :: r, i + 1, h => by
    have := flat3_get r i (by simpa using h)
    have e1 : (i + 1) * 3 = i * 3 + 3 := by omega
    simp only [flat3, List.flatMap_cons, ent, e1] at this ⊢
    simpa using this
theorem flat3_take : ∀ (E : List Ent) (m : Nat), m ≤ E.length → (flat3 E).take (m * 3) = flat3 (E.take m)
  | E, 0, _ => by simp [flat3]
  | [], m + 1, h => by simp at h
  | e :: r, m + 1, h => by
    have := flat3_take r m (by simpa using h)
    have e1 : (m + 1) * 3 = m * 3 + 3 := by omega
    simp only [flat3, List.flatMap_cons, ent, e1, List.take_succ_cons] at this ⊢
    simpa using this

/-- what stands around the stack E; v: the slice -/
structure Lp (w1 wr : World) (E : List Ent) (v : Value) : Prop where
  own : wr.ownsRow w1.heap.size 41 3 v E.length (flat3 E)
  nds : ∀ e ∈ E, Nd wr e.1 e.2.1 e.2.2
  sm : ∀ e ∈ E, e.2.1.size ≤ 4096 ∧ e.2.2 ≤ 4096 ∧ w1.heap.size ≤ e.1
  blw : Below w1.heap.size w1 wr

theorem Lp.form {w1 wr : World} {E : List Ent} {v : Value} (h : Lp w1 wr E v) : ∃ aa cc, v = .slice aa E.length cc := by
  rcases h.own.2 with ⟨rfl, h0⟩ | ⟨g, cap, cur, rfl, _⟩
  · exact ⟨none, 0, by rw [h0]⟩
  · exact ⟨_, _, rfl⟩

theorem Lp.cells {w1 wr : World} {E : List Ent} {aa : Option Addr} {cc : Nat} (h : Lp w1 wr E (.slice aa E.length cc)) (h0 : 0 < E.length) : ∃ g cs, aa = some ⟨g, 0, none⟩ ∧ wr.heap[g]? = some (.cells cs 41 (0, 0)) ∧ E.length ≤ cc ∧
    ∀ i (hi : i < E.length), wr.cell? ⟨g, i * 3, none⟩ = some (.pointer (some ⟨E[i].1, 0, none⟩)) ∧ wr.cell? ⟨g, i * 3 + 1, none⟩ = some (.string E[i].2.1) ∧ wr.cell? ⟨g, i * 3 + 2, none⟩ = some (.int .i64 E[i].2.2) := by
  rcases h.own.2 with ⟨_, h1⟩ | ⟨g, cap, cur, e, h1, h2, h3, h4, h5, h6⟩
  · omega
  · cases e
    refine ⟨g, cur, rfl, h2, h3, fun i hi => ?_⟩
    obtain ⟨e1, e2, e3⟩ := flat3_get E i hi
    have c1 := h.own.cells (g := g) rfl (i * 3) _ e1
    have c2 := h.own.cells (g := g) rfl (i * 3 + 1) _ e2
    have c3 := h.own.cells (g := g) rfl (i * 3 + 2) _ e3
    refine ⟨?_, by simpa [Addr.add] using c2, by simpa [Addr.add] using c3⟩
    by_cases h0 : i = 0
    · subst h0; simpa [Addr.add] using c1
    · have h0' : i * 3 ≠ 0 := by omega
      simpa [Addr.add, h0'] using c1

theorem Lp.below {w1 wr w' : World} {E : List Ent} {v : Value} (h : Lp w1 wr E v) (hb : Below wr.heap.size wr w') : Lp w1 w' E v := by
  refine ⟨own_block h.own fun g hg => hb.block g (h.own.lt g hg).2, fun e he => (h.nds e he).keep fun i cs hi => (hb.block i (lt_of_heap hi)).trans hi, h.sm, ?_⟩
  have := h.blw
  exact ⟨hb.os.trans this.os, hb.tape.trans this.tape, hb.output.trans this.output, Nat.le_trans this.size hb.size, fun i hi => (hb.block i (Nat.lt_of_lt_of_le hi this.size)).trans (this.block i hi)⟩

theorem Lp.joined {w1 wr w' : World} {E : List Ent} {v : Value} {nb L : Nat} {t : BA} (h : Lp w1 wr E v) (hn : Nd wr nb t L) (hnb : w1.heap.size ≤ nb) (hj : Joined wr w' nb t) : Lp w1 w' E v := by
  refine ⟨own_block h.own fun g hg => hj.block g (h.own.lt g hg).2 ?_, fun e he => hj.nd hn (h.nds e he), h.sm, ?_⟩
  · intro e
    obtain ⟨cs, hc⟩ := own_kind h.own g hg
    obtain ⟨cs', hc'⟩ := hn.kind
    rw [e, hc'] at hc
    simp at hc
  · have := h.blw
    exact ⟨hj.os.trans this.os, hj.tape.trans this.tape, hj.output.trans this.output, Nat.le_trans this.size hj.size, fun i hi => (hj.block i (Nat.lt_of_lt_of_le hi this.size) (by omega)).trans (this.block i hi)⟩

theorem Lp.take {w1 wr : World} {E : List Ent} {a : Addr} {cc m : Nat} (h : Lp w1 wr E (.slice (some a) E.length cc)) (hm : m ≤ E.length) (h0 : 0 < E.length) : Lp w1 wr (E.take m) (.slice (some a) m cc) := by
  obtain ⟨g, cs, e, _⟩ := h.cells h0
  cases e
  refine ⟨?_, fun e he => h.nds e (List.mem_of_mem_take he), fun e he => h.sm e (List.mem_of_mem_take he), h.blw⟩
  have := own_take h.own hm
  rw [flat3_take E m hm] at this
  have e2 : (E.take m).length = m := by simp; omega
  rw [e2]
  exact this

theorem Lp.pushed {w1 wr w' : World} {E : List Ent} {v v' : Value} {e : Ent} (h : Lp w1 wr E v) (hn : Nd wr e.1 e.2.1 e.2.2) (hs : e.2.1.size ≤ 4096 ∧ e.2.2 ≤ 4096 ∧ w1.heap.size ≤ e.1)
    (own : w'.ownsRow w1.heap.size 41 3 v' (E.length + 1) (flat3 E ++ ent e)) (hg : wr.grownBy w' v.ownBlock) : Lp w1 w' (E ++ [e]) v' := by
  have hk : Keeps wr w' := Keeps.grown hg fun g hg' => by
    obtain ⟨cs, hc⟩ := own_kind h.own g hg'
    exact ⟨cs, 41, _, hc, by decide⟩
  have hb := h.blw
  refine ⟨by rw [flat3_snoc]; simpa using own, fun x hx => ?_, fun x hx => ?_, hg.os.trans hb.os, hg.tape.trans hb.tape, hg.output.trans hb.output, Nat.le_trans hb.size hg.size, fun i hi => (hg.block i (Nat.lt_of_lt_of_le hi hb.size) (fun e => ?_)).trans (hb.block i hi)⟩
  · rcases List.mem_append.1 hx with hx | hx
    · exact (h.nds x hx).keep hk
    · simp at hx; subst hx; exact hn.keep hk
  · rcases List.mem_append.1 hx with hx | hx
    · exact h.sm x hx
    · simp at hx; subst hx; exact hs
  · have := (h.own.lt i e.symm).1
    omega

theorem three_new (W : World) (e : Ent) {n : Nat} (hn : W.heap.size = n) : ∀ j u, (ent e)[j]? = some u → (W.alloc (.cells #[.pointer (some ⟨e.1, 0, none⟩), .string e.2.1, .int .i64 e.2.2] 41)).cell? ((⟨n, 0, none⟩ : Addr).add j) = some u := by
  subst hn
  intro j u hj
  match j, hj with
  | 0, hj => simp [ent] at hj; subst hj; simp [Addr.add]
  | 1, hj => simp [ent] at hj; subst hj; simp [Addr.add]
  | 2, hj => simp [ent] at hj; subst hj; simp [Addr.add]
theorem three_one (e : Ent) : ∀ u ∈ ent e, u.oneCell' = true := by
  intro u hu
  simp [ent] at hu
  rcases hu with rfl | rfl | rfl <;> rfl
theorem info41 : (Try.prog.info? 41).map (fun i => (i.zero, i.size, i.bytes)) = some (some (.agg #[.pointer none, .string ByteArray.empty, .int .i64 0]), 3, 32) := by kernel_rfl

end Go.Proofs.Qxb6002359a.M
