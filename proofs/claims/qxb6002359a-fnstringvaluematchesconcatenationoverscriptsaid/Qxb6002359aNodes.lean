/- Nodes of a string value in memory: a leaf, or a concatenation not joined yet; shared or not. -/
import Derived.Test.Qxb6002359aShelf
import Derived.Below
import Derived.Maps.AppendAt
namespace Go.Proofs.Qxb6002359a.M
open Go.RowKit
set_option linter.unusedVariables false

abbrev BA := ByteArray

def leafO (t : BA) : Obj := .cells #[.string t, .pointer none, .pointer none, .int .i64 t.size] 59 (0, 0)
def catO (s : BA) (x y : Nat) (n : Nat) : Obj := .cells #[.string s, .pointer (some ⟨x, 0, none⟩), .pointer (some ⟨y, 0, none⟩), .int .i64 n] 59 (0, 0)

/-- Block b is a node of text t that unfolds into l leaves (a leaf may count for more). -/
inductive Nd (w : World) : Nat → BA → Nat → Prop
  | leaf {b : Nat} {t : BA} {l : Nat} : 1 ≤ l → w.heap[b]? = some (leafO t) → Nd w b t l
  | cat {b : Nat} {s : BA} {x y : Nat} {t1 t2 : BA} {l1 l2 : Nat} : w.heap[b]? = some (catO s x y (t1 ++ t2).size) → Nd w x t1 l1 → Nd w y t2 l2 → Nd w b (t1 ++ t2) (l1 + l2)

theorem Nd.pos {w : World} {b l : Nat} {t : BA} (h : Nd w b t l) : 1 ≤ l := by
  induction h with
  | leaf h _ => exact h
  | cat _ _ _ h1 h2 => omega

theorem lt_of_heap {w : World} {b : Nat} {o : Obj} (h : w.heap[b]? = some o) : b < w.heap.size := (Array.getElem?_eq_some_iff.1 h).1
theorem Nd.lt {w : World} {b l : Nat} {t : BA} (h : Nd w b t l) : b < w.heap.size := by
  cases h with
  | leaf _ h => exact lt_of_heap h
  | cat h _ _ => exact lt_of_heap h

/-- no node has turned -/
def Keeps (w w' : World) : Prop := ∀ (i : Nat) (cs : Array Value), w.heap[i]? = some (Obj.cells cs 59 (0, 0)) → w'.heap[i]? = some (Obj.cells cs 59 (0, 0))
theorem Keeps.refl (w : World) : Keeps w w := fun _ _ h => h
theorem Keeps.trans {w w1 w2 : World} (h : Keeps w w1) (k : Keeps w1 w2) : Keeps w w2 := fun i cs e => k i cs (h i cs e)
theorem Keeps.grown {w w' : World} {row : Option Nat} (hg : w.grownBy w' row) (hr : ∀ g, row = some g → ∃ cs T fr, w.heap[g]? = some (.cells cs T fr) ∧ T ≠ 59) : Keeps w w' := fun i cs e =>
  (hg.block i (lt_of_heap e) (fun h => by
    obtain ⟨cs', T, fr, h1, h2⟩ := hr i h.symm
    rw [e] at h1
    simp only [Option.some.injEq, Obj.cells.injEq] at h1
    exact h2 h1.2.1.symm)).trans e
theorem Keeps.others {w w' : World} {b : Nat} {cs0 : Array Value} {fr : Nat × Nat} (hk : Lib.OthersKept 5 (some b) w w') (hb : w.heap[b]? = some (.cells cs0 78 fr)) : Keeps w w' := fun i cs e =>
  hk i _ e (fun h => by
    cases h
    rw [e] at hb
    simp at hb) (fun c fz h => by simp at h)

theorem Nd.keep {w w' : World} {b l : Nat} {t : BA} (h : Nd w b t l) (hk : Keeps w w') : Nd w' b t l := by
  induction h with
  | leaf h1 h2 => exact .leaf h1 (hk _ _ h2)
  | cat h _ _ h1 h2 => exact .cat (hk _ _ h) h1 h2

theorem leaf_cat {t s : BA} {x y n : Nat} (h : leafO t = catO s x y n) : False := by simp [leafO, catO] at h

theorem Nd.det {w : World} {b l : Nat} {t : BA} (h : Nd w b t l) : ∀ t' l', Nd w b t' l' → t = t' := by
  induction h with
  | leaf h1 h2 =>
    intro t' l' h'
    cases h' with
    | leaf k1 k2 =>
      rw [h2] at k2
      simp only [leafO, Option.some.injEq, Obj.cells.injEq] at k2
      have := k2.1
      simp at this
      exact this.1
    | cat k1 k2 k3 =>
      rw [h2] at k1
      exact (leaf_cat (Option.some.inj k1)).elim
  | cat h1 h2 h3 i1 i2 =>
    intro t' l' h'
    cases h' with
    | leaf k1 k2 =>
      rw [h1] at k2
      exact (leaf_cat (Option.some.inj k2).symm).elim
    | cat k1 k2 k3 =>
      rw [h1] at k1
      simp [catO] at k1
      obtain ⟨_, rfl, rfl, _⟩ := k1
      rw [i1 _ _ k2, i2 _ _ k3]

/-- joining a node in place changes no node's text -/
theorem Nd.join {w w' : World} {b L : Nat} {T : BA} (hT : Nd w b T L) (hb : w'.heap[b]? = some (leafO T)) (hk : ∀ i cs, i ≠ b → w.heap[i]? = some (.cells cs 59 (0, 0)) → w'.heap[i]? = some (.cells cs 59 (0, 0))) {c l : Nat} {t : BA} (h : Nd w c t l) : Nd w' c t l := by
  induction h with
  | @leaf c t l h1 h2 =>
    by_cases e : c = b
    · subst e
      have := hT.det _ _ (.leaf h1 h2)
      subst this
      exact .leaf h1 hb
    · exact .leaf h1 (hk _ _ e h2)
  | @cat c s x y t1 t2 l1 l2 h1 h2 h3 i1 i2 =>
    by_cases e : c = b
    · subst e
      have := hT.det _ _ (.cat h1 h2 h3)
      rw [this] at hb
      exact .leaf (by have := h2.pos; omega) hb
    · exact .cat (hk _ _ e h1) i1 i2

/-- value has come back: at most the node that was read has turned, into a leaf of its text -/
structure Joined (w w' : World) (nb : Nat) (t : BA) : Prop where
  os : w'.os = w.os
  tape : w'.tape = w.tape
  output : w'.output = w.output
  size : w.heap.size ≤ w'.heap.size
  block : ∀ i, i < w.heap.size → i ≠ nb → w'.heap[i]? = w.heap[i]?
  at' : w'.heap[nb]? = w.heap[nb]? ∨ w'.heap[nb]? = some (leafO t)

theorem Joined.nd {w w' : World} {nb L : Nat} {T : BA} (hj : Joined w w' nb T) (hT : Nd w nb T L) {c l : Nat} {t : BA} (h : Nd w c t l) : Nd w' c t l := by
  rcases hj.at' with e | e
  · refine h.keep fun i cs hi => ?_
    by_cases hne : i = nb
    · subst hne; rw [e]; exact hi
    · rw [hj.block i (lt_of_heap hi) hne]; exact hi
  · exact hT.join e (fun i cs hne hi => by rw [hj.block i (lt_of_heap hi) hne]; exact hi) h

/-! ### value's own stack: the top first -/
def rest : List (Nat × BA × Nat) → BA
  | [] => ByteArray.empty
  | e :: r => e.2.1 ++ rest r
def meas : List (Nat × BA × Nat) → Nat
  | [] => 0
  | e :: r => (2 * e.2.2 - 1) + meas r
def Nds (w : World) (R : List (Nat × BA × Nat)) : Prop := ∀ e ∈ R, Nd w e.1 e.2.1 e.2.2
theorem Nds.keep {w w' : World} {R : List (Nat × BA × Nat)} (h : Nds w R) (hk : Keeps w w') : Nds w' R := fun e he => (h e he).keep hk
/-- its cells, the bottom first -/
def ptrs (R : List (Nat × BA × Nat)) : List Value := R.reverse.map fun e => .pointer (some ⟨e.1, 0, none⟩)
theorem ptrs_cons (e : Nat × BA × Nat) (r : List (Nat × BA × Nat)) : ptrs (e :: r) = ptrs r ++ [.pointer (some ⟨e.1, 0, none⟩)] := by simp [ptrs]
theorem ptrs_length (R : List (Nat × BA × Nat)) : (ptrs R).length = R.length := by simp [ptrs]
theorem len_le_meas {w : World} : ∀ R : List (Nat × BA × Nat), Nds w R → R.length ≤ meas R
  | [], _ => Nat.le_refl _
  | e :: r, h => by
    have := len_le_meas r (fun x hx => h x (List.mem_cons_of_mem _ hx))
    have := (h e List.mem_cons_self).pos
    simp only [meas, List.length_cons]
    omega

theorem own_block {w w' : World} {B n size : Nat} {e : TypeId} {v : Value} {xs : List Value} (h : w.ownsRow B e size v n xs) (hb : ∀ g, v.ownBlock = some g → w'.heap[g]? = w.heap[g]?) : w'.ownsRow B e size v n xs := by
  refine ⟨h.1, ?_⟩
  rcases h.2 with hn | ⟨g, cap, cur, rfl, h1, h2, h3⟩
  · exact .inl hn
  · exact .inr ⟨g, cap, cur, rfl, h1, (hb g rfl).trans h2, h3⟩
theorem own_kind {w : World} {B n size : Nat} {e : TypeId} {v : Value} {xs : List Value} (h : w.ownsRow B e size v n xs) : ∀ g, v.ownBlock = some g → ∃ cs, w.heap[g]? = some (.cells cs e (0, 0)) := by
  intro g hg
  rcases h.2 with ⟨rfl, _⟩ | ⟨g', cap, cur, rfl, h1, h2, h3⟩
  · cases hg
  · simp [Value.ownBlock] at hg
    subst hg
    exact ⟨_, h2⟩
/-- the head of an owned row -/
theorem own_take {w : World} {B n m size : Nat} {e : TypeId} {g cap : Nat} {xs : List Value} (h : w.ownsRow B e size (.slice (some ⟨g, 0, none⟩) n cap) n xs) (hm : m ≤ n) : w.ownsRow B e size (.slice (some ⟨g, 0, none⟩) m cap) m (xs.take (m * size)) := by
  obtain ⟨h1, h2⟩ := h
  have hle : m * size ≤ n * size := Nat.mul_le_mul_right _ hm
  refine ⟨by simp; omega, ?_⟩
  rcases h2 with ⟨h2, _⟩ | ⟨g', cap', cur, e1, h3, h4, h5, h6, h7, h8⟩
  · cases h2
  · cases e1
    refine .inr ⟨g, cap, cur, rfl, h3, h4, by omega, h6, h7, ?_⟩
    rw [← h8, List.take_take, Nat.min_eq_left hle]

theorem builder_grown {w w' : World} {B b : Nat} {p : Value} {bs : List Value} (h : Lib.BuilderAtF 78 5 B b p bs w) {row : Option Nat} (hg : w.grownBy w' row) (hr : ∀ g, row = some g → ∃ cs, w.heap[g]? = some (.cells cs 36 (0, 0))) : Lib.BuilderAtF 78 5 B b p bs w' := by
  obtain ⟨hB, v, hb, hown, hne⟩ := h
  have nb : some b ≠ row := fun e => by
    obtain ⟨cs, hc⟩ := hr b e.symm
    rw [hb] at hc
    simp at hc
  refine ⟨hB, v, (hg.block b (lt_of_heap hb) nb).trans hb, hown.kept hg ?_, hne⟩
  cases hv : v.ownBlock with
  | none => exact Or.inl rfl
  | some k =>
    right
    intro e
    obtain ⟨cs, hc⟩ := hr k e.symm
    obtain ⟨c, fz, hk⟩ := Lib.ownsRowF_kind hown k hv
    rw [hk] at hc
    simp at hc

end Go.Proofs.Qxb6002359a.M
