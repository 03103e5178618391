/- ZZValue, ZZLeaf, ZZCat. -/
import Derived.Test.Qxb6002359aValue
namespace Go.Proofs.Qxb6002359a.M
open Go.RowKit Go.ChangeShapes Go.WideShapes Go.ChangeAt
set_option linter.unusedVariables false
set_option linter.unusedSimpArgs false

theorem value_any (w : World) (nb l : Nat) (t : BA) (hn : Nd w nb t l) (hl : l ≤ 4096) (ht : t.size ≤ 4096) :
    Calls Try.prog 29 #[.agg #[.pointer (some ⟨nb, 0, none⟩)]] w (fun e w' => e = .returned (.string t) ∧ Joined w w' nb t) := by
  cases hn with
  | leaf _ h => exact value_leaf w nb t h
  | cat h h1 h2 => exact value_cat w nb _ _ _ _ _ _ _ h h1 h2 hl ht

theorem zzValue_any (w : World) (nb l : Nat) (t : BA) (hn : Nd w nb t l) (hl : l ≤ 4096) (ht : t.size ≤ 4096) :
    Calls Try.prog 17 #[.agg #[.pointer (some ⟨nb, 0, none⟩)]] w (fun e w' => e = .returned (.string t) ∧ Joined w w' nb t) := by
  have hlt := hn.lt
  have hk : ∀ o, Keeps w (w.alloc o) := fun o i cs h => (Lib.alloc_old _ _ _ (lt_of_heap h)).trans h
  have HC : Hid (Calls Try.prog 29 #[.agg #[.pointer (some ⟨nb, 0, none⟩)]] (w.alloc (.cells #[.pointer (some ⟨nb, 0, none⟩)] 38)) (fun e w' => e = .returned (.string t) ∧ Joined (w.alloc (.cells #[.pointer (some ⟨nb, 0, none⟩)] 38)) w' nb t)) := value_any _ nb l t (hn.keep (hk _)) hl ht
  clear hn
  go_enter Try.func17, Try.ntmps17
  go_wp2_with (go_at_call 29; refine HC.out.mono ?_; clear HC; rintro e w' ⟨rfl, hj⟩)
  go_ret
  refine ⟨rfl, hj.os, hj.tape, hj.output, by have := hj.size; simp at this; omega, fun i hi hne => (hj.block i (by simp; omega) hne).trans (Lib.alloc_old _ _ _ hi), ?_⟩
  rcases hj.at' with e | e
  · exact Or.inl (e.trans (Lib.alloc_old _ _ _ hlt))
  · exact Or.inr e

theorem Nd.kind {w : World} {b l : Nat} {t : BA} (h : Nd w b t l) : ∃ cs, w.heap[b]? = some (.cells cs 59 (0, 0)) := by
  cases h with
  | leaf _ h => exact ⟨_, h⟩
  | cat h _ _ => exact ⟨_, h⟩

/-- a node has come back -/
def RetNode (w w' : World) (e : Ending) (t : BA) (l : Nat) : Prop := ∃ b, e = .returned (.agg #[.pointer (some ⟨b, 0, none⟩)]) ∧ Nd w' b t l ∧ Below w.heap.size w w' ∧ w.heap.size ≤ b

theorem makeString_any (w : World) (s : BA) : Calls Try.prog 28 #[.string s] w (fun e w' => RetNode w w' e s 1) := by
  go_enter Try.func28, Try.ntmps28
  go_wp2_with fail
  refine bodyPost_ret (v := .agg #[.pointer (some ⟨w.heap.size + 1, 0, none⟩)]) (by simp [results, Try.results28, go_sem]) rfl ?_
  exact ⟨w.heap.size + 1, rfl, .leaf (Nat.le_refl _) (heap_alloc2_new _ _ _), ((Below.refl _ _).alloc (Nat.le_refl _) _).alloc (by simp) _, by omega⟩

theorem zzLeaf_any (w : World) (s : BA) : Calls Try.prog 15 #[.string s] w (fun e w' => RetNode w w' e s 1) := by
  have HC : Hid (∀ o, Calls Try.prog 28 #[.string s] (w.alloc o) (fun e w' => RetNode (w.alloc o) w' e s 1)) := fun o => makeString_any _ s
  go_enter Try.func15, Try.ntmps15
  go_wp2_with (go_at_call 28; refine (HC.out _).mono ?_; clear HC; rintro e w' ⟨b, rfl, hn, hb, hbb⟩; have cz : w'.cell? ⟨w.heap.size, 0, none⟩ = some (.pointer none) := by { rw [hb.cell (by simp)]; simp }; have fz : w'.frozen? ⟨w.heap.size, 0, none⟩ = false := by { rw [World.frozen?_of_block (w := w.alloc (.cells #[.pointer none] 38)) (hb.block _ (by simp))]; exact World.frozen?_alloc_at _ _ _ _ rfl }; have hw0 : w'.heap[w.heap.size]? = some (.cells #[.pointer none] 38) := by { rw [hb.block _ (by simp)]; exact heap_alloc_new _ _ })
  refine bodyPost_ret (v := .agg #[.pointer (some ⟨b, 0, none⟩)]) (by simp [results, Try.results15, go_sem, cz]) rfl ?_
  refine ⟨b, rfl, hn.keep fun i cs h => ?_, ?_, by simp at hbb; omega⟩
  · rw [Below.heap_setCell _ _ _ _ (fun e => by
      simp at e
      subst e
      rw [hw0] at h
      simp at h)]
    exact h
  · have h1 : Below w.heap.size w w' := ⟨hb.os, hb.tape, hb.output, by have := hb.size; simp at this; omega, fun i hi => (hb.block i (by simp; omega)).trans (Lib.alloc_old _ _ _ hi)⟩
    exact h1.setCell (Nat.le_refl _) _

set_option maxRecDepth 100000 in
set_option maxHeartbeats 1600000 in
theorem zzCat_any (w : World) (x y l1 l2 : Nat) (t1 t2 : BA) (h1 : Nd w x t1 l1) (h2 : Nd w y t2 l2) (ht : t1.size + t2.size ≤ 4096) :
    Calls Try.prog 16 #[.agg #[.pointer (some ⟨x, 0, none⟩)], .agg #[.pointer (some ⟨y, 0, none⟩)]] w (fun e w' => RetNode w w' e (t1 ++ t2) (l1 + l2)) := by
  have n3 : ∀ {b l : Nat} {t : BA}, Nd w b t l → w.cell? ⟨b, 3, none⟩ = some (.int .i64 t.size) := fun h => by
    cases h with
    | leaf _ h => rw [cell_heap h]; rfl
    | cat h _ _ => rw [cell_heap h]; rfl
  have c1 := n3 h1
  have c2 := n3 h2
  have hx := h1.lt
  have hy := h2.lt
  have hxn : x ≠ w.heap.size := by omega
  have ht1 : t1.size ≤ 4096 := by omega
  have ht2 : t2.size ≤ 4096 := by omega
  have hyn : y ≠ w.heap.size := by omega
  have HN : Hid (Nd w x t1 l1 ∧ Nd w y t2 l2) := ⟨h1, h2⟩
  clear n3 h1 h2
  go_enter Try.func16, Try.ntmps16
  go_wp2_with fail
  obtain ⟨W, hW⟩ : ∃ W, W = ((w.alloc (.cells #[.pointer (some ⟨x, 0, none⟩)] 38)).alloc (.cells #[.pointer (some ⟨y, 0, none⟩)] 38)).alloc (.cells #[.pointer none] 38) := ⟨_, rfl⟩
  rw [← hW]
  have zW : W.heap.size = w.heap.size + 3 := by rw [hW]; simp
  have bW : Below w.heap.size w W := by rw [hW]; exact (((Below.refl _ _).alloc (Nat.le_refl _) _).alloc (by simp) _).alloc (by simp; omega) _
  have d1 : W.cell? ⟨w.heap.size, 0, none⟩ = some (.pointer (some ⟨x, 0, none⟩)) := by
    rw [hW, World.cell?_alloc_lt _ _ _ (by simp; omega), World.cell?_alloc_lt _ _ _ (by simp)]; simp
  have d2 : W.cell? ⟨w.heap.size + 1, 0, none⟩ = some (.pointer (some ⟨y, 0, none⟩)) := by
    rw [hW, World.cell?_alloc_lt _ _ _ (by simp)]
    exact World.cell?_alloc_at _ _ _ _ (by simp)
  have d3 : W.cell? ⟨x, 3, none⟩ = some (.int .i64 t1.size) := (bW.cell hx).trans c1
  have d4 : W.cell? ⟨y, 3, none⟩ = some (.int .i64 t2.size) := (bW.cell hy).trans c2
  have d5 : W.heap[w.heap.size + 2]? = some (.cells #[.pointer none] 38) := by
    rw [hW]
    have := heap_alloc_new ((w.alloc (.cells #[.pointer (some ⟨x, 0, none⟩)] 38)).alloc (.cells #[.pointer (some ⟨y, 0, none⟩)] 38)) (.cells #[.pointer none] 38)
    simpa using this
  have HS : Hid (∀ W' : World, (∀ i, i < W.heap.size → i ≠ w.heap.size + 2 → W'.heap[i]? = W.heap[i]?) → (W'.cell? ⟨w.heap.size, 0, none⟩ = some (.pointer (some ⟨x, 0, none⟩)) ∧ W'.cell? ⟨w.heap.size + 1, 0, none⟩ = some (.pointer (some ⟨y, 0, none⟩)) ∧ W'.cell? ⟨x, 3, none⟩ = some (.int .i64 t1.size) ∧ W'.cell? ⟨y, 3, none⟩ = some (.int .i64 t2.size))) := fun W' hk =>
    ⟨(World.cell?_of_block (hk w.heap.size (by omega) (by omega))).trans d1, (World.cell?_of_block (hk (w.heap.size + 1) (by omega) (by omega))).trans d2, (World.cell?_of_block (hk x (by omega) (by omega))).trans d3, (World.cell?_of_block (hk y (by omega) (by omega))).trans d4⟩
  have HA : Hid (∀ o, (W.drew.alloc o).cell? ⟨w.heap.size + 1 + 1, 0, none⟩ = some (.pointer none) ∧ (W.drew.alloc o).frozen? ⟨w.heap.size + 1 + 1, 0, none⟩ = false) := fun o => by
    have e : (W.drew.alloc o).heap[w.heap.size + 1 + 1]? = some (.cells #[.pointer none] 38) := (Lib.alloc_old _ _ _ (by show _ < W.heap.size; omega)).trans d5
    exact ⟨by rw [cell_heap e]; rfl, Lib.frozen_of_heap e 0⟩
  have HW : Hid (Below w.heap.size w W ∧ W.heap[w.heap.size + 2]? = some (.cells #[.pointer none] 38)) := ⟨bW, d5⟩
  have cz : ∀ o, (W.alloc o).cell? ⟨w.heap.size + 1 + 1, 0, none⟩ = some (.pointer none) := fun o => (HA.out o).1
  have fz : ∀ o, (W.alloc o).frozen? ⟨w.heap.size + 1 + 1, 0, none⟩ = false := fun o => (HA.out o).2
  have cz' : ∀ o, (W.alloc o).cell? ⟨w.heap.size + 2, 0, none⟩ = some (.pointer none) := fun o => (HA.out o).1
  have fz' : ∀ o, (W.alloc o).frozen? ⟨w.heap.size + 2, 0, none⟩ = false := fun o => (HA.out o).2
  clear hW bW d1 d2 d3 d4 d5 c1 c2
  go_region_held3 (fun w' : World => w'.cell? ⟨w.heap.size, 0, none⟩ = some (.pointer (some ⟨x, 0, none⟩)) ∧ w'.cell? ⟨w.heap.size + 1, 0, none⟩ = some (.pointer (some ⟨y, 0, none⟩)) ∧ w'.cell? ⟨x, 3, none⟩ = some (.int .i64 t1.size) ∧ w'.cell? ⟨y, 3, none⟩ = some (.int .i64 t2.size)) ((first | exact HS.out _ (fun i hi _ => rfl) | exact HS.out _ (fun i hi _ => Lib.alloc_old _ _ _ hi) | exact HS.out _ (fun i hi hne => (Lib.alloc_old _ _ _ (by rw [World.size_setCell]; exact hi)).trans (Below.heap_setCell _ _ _ _ (fun e => hne e))))) (fail)
  go_wp2_with fail
  have hwr : IntKind.i64.wrap ((t1.size : Int) + t2.size) = ((t1 ++ t2).size : Nat) := by
    have e : ((t1 ++ t2).size : Int) = (t1.size : Int) + t2.size := by rw [ByteArray.size_append]; simp
    rw [e]
    rw [IntKind.wrap_i64]
    omega
  rw [hwr]
  obtain ⟨V, hV⟩ : ∃ V, V = ((W.setCell ⟨w.heap.size + 1 + 1, 0, none⟩ (.pointer (some ⟨w.heap.size + 3, 0, none⟩))).alloc (.cells #[.string { data := #[] }, .pointer (some ⟨x, 0, none⟩), .pointer (some ⟨y, 0, none⟩), .int .i64 ((t1 ++ t2).size : Nat)] 59)).drew := ⟨_, rfl⟩
  rw [← hV]
  have vW : ∀ i, i < W.heap.size → i ≠ w.heap.size + 2 → V.heap[i]? = W.heap[i]? := fun i hi hne => by
    rw [hV]
    exact (Lib.alloc_old _ _ _ (by rw [World.size_setCell]; exact hi)).trans (Below.heap_setCell _ _ _ _ (fun e => hne e))
  have vN : V.heap[w.heap.size + 3]? = some (catO { data := #[] } x y (t1 ++ t2).size) := by
    rw [hV]
    have := heap_alloc_new (W.setCell ⟨w.heap.size + 1 + 1, 0, none⟩ (.pointer (some ⟨w.heap.size + 3, 0, none⟩))) (.cells #[.string { data := #[] }, .pointer (some ⟨x, 0, none⟩), .pointer (some ⟨y, 0, none⟩), .int .i64 ((t1 ++ t2).size : Nat)] 59)
    rw [World.size_setCell, zW] at this
    exact this
  have vC : V.cell? ⟨w.heap.size + 1 + 1, 0, none⟩ = some (.pointer (some ⟨w.heap.size + 3, 0, none⟩)) := by
    rw [hV]
    show ((W.setCell ⟨w.heap.size + 1 + 1, 0, none⟩ _).alloc _).cell? _ = _
    rw [World.cell?_alloc_lt _ _ _ (by simp; omega)]
    refine World.cell?_setCell_same' _ _ _ ?_
    rw [cell_heap HW.out.2]; rfl
  have vZ : w.heap.size ≤ V.heap.size := by rw [hV]; show _ ≤ ((W.setCell _ _).alloc _).heap.size; simp; omega
  have vO : V.os = W.os ∧ V.tape = W.tape ∧ V.output = W.output := by rw [hV]; exact ⟨rfl, rfl, rfl⟩
  have bl := HW.out.1
  have hk : Keeps w V := fun i cs h => (vW i (by have := lt_of_heap h; omega) (by have := lt_of_heap h; omega)).trans ((bl.block i (lt_of_heap h)).trans h)
  refine bodyPost_ret (v := .agg #[.pointer (some ⟨w.heap.size + 3, 0, none⟩)]) (by simp [results, Try.results16, go_sem, vC]) rfl ?_
  exact ⟨w.heap.size + 3, rfl, .cat vN (HN.out.1.keep hk) (HN.out.2.keep hk), ⟨vO.1.trans bl.os, vO.2.1.trans bl.tape, vO.2.2.trans bl.output, vZ, fun i hi => (vW i (by omega) (by omega)).trans (bl.block i hi)⟩, by omega⟩

end Go.Proofs.Qxb6002359a.M
