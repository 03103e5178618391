/- The walks of slices.Clone at []int32 and at [][]int32, for slices that are not empty. -/
import Derived.Test.Qxb6602268aPack
namespace Go.Proofs.Qxb6602268a.M
open Go.ChangeShapes Go.WideShapes Go.ChangeAt Go.RowKit
set_option linter.unusedVariables false

theorem own_row {w1 : World} {base : Nat} {e : TypeId} {v : Value} {n : Nat} {xs : List Value} (h : w1.ownsRow base e 1 v n xs) (h0 : 0 < n) :
    ∃ g cap f, v = .slice (some ⟨g, 0, none⟩) n cap ∧ base ≤ g ∧ w1.rowIs g e cap f ∧ n ≤ cap ∧ ∀ i, i < n → xs[i]? = some (f i) := by
  obtain ⟨hl, h⟩ := h
  rcases h with ⟨_, h⟩ | ⟨g, cap, cur, hv, hg, hh, hc, _, hs, ht⟩
  · omega
  · rw [Nat.mul_one] at hs ht
    refine ⟨g, cap, fun i => cur.getD i .nilIface, hv, hg, ⟨cur, hh, hs, fun i hi => ?_⟩, hc, fun i hi => ?_⟩
    · show cur[i]? = some (cur.getD i .nilIface)
      rw [Array.getD_eq_getD_getElem?, Array.getElem?_eq_getElem (by omega)]; rfl
    · show xs[i]? = some (cur.getD i .nilIface)
      rw [← ht, List.getElem?_take_of_lt hi, Array.getElem?_toList, Array.getD_eq_getD_getElem?, Array.getElem?_eq_getElem (by omega)]; rfl

theorem map_get (n : Nat) (f : Nat → Value) (i : Nat) (h : i < n) : ((List.range n).map f)[i]? = some (f i) := by
  rw [List.getElem?_map, List.getElem?_range h]; rfl

theorem news_cells {w : World} {b o n : Nat} {f : Nat → Value} (hc : ∀ i, i < n → w.cell? ⟨b, o + i, none⟩ = some (f i)) (ob : Obj) :
    ∀ j u, ((List.range n).map f)[j]? = some u → (w.alloc ob).cell? ((⟨b, o, none⟩ : Addr).add j) = some u := by
  intro j u hj
  by_cases h : j < n
  · rw [map_get n f j h] at hj
    cases hj
    have e : ((⟨b, o, none⟩ : Addr).add j) = ⟨b, o + j, none⟩ := by
      unfold Addr.add
      by_cases e0 : j = 0
      · subst e0; rfl
      · rw [if_neg e0]
    rw [e]
    exact (((Below.refl w.heap.size w).alloc (Nat.le_refl _) ob).cell (lt_of_cell (hc j h))).trans (hc j h)
  · rw [List.getElem?_eq_none (by simpa using h)] at hj; cases hj

theorem ownsRow_empty (w : World) (e : TypeId) : (w.alloc (.cells #[] e)).ownsRow w.heap.size e 1 (.slice (some ⟨w.heap.size, 0, none⟩) 0 0) 0 [] :=
  ⟨rfl, .inr ⟨w.heap.size, 0, #[], rfl, Nat.le_refl _, Deep.blk_alloc_new _ _, Nat.le_refl _, Nat.zero_le _, rfl, rfl⟩⟩

set_option maxHeartbeats 1000000 in
theorem clone50_any (b o : Nat) (n c : Nat) (Z : Nat → Int) (w : World) (hc : ∀ i, i < n → w.cell? ⟨b, o + i, none⟩ = some (.int .i32 (Z i))) (h0 : 0 < n) (hn : n ≤ 131072) :
    Calls Try.prog 50 #[.slice (some ⟨b, o, none⟩) n c] w fun e w' => ∃ g cap f, e = .returned (.slice (some ⟨g, 0, none⟩) n cap) ∧ w.heap.size ≤ g ∧ w'.rowIs g 21 cap f ∧ n ≤ cap ∧ (∀ i, i < n → f i = .int .i32 (Z i)) ∧ Below w.heap.size w w' := by
  have hq2 := fun w a n c => Lib.run_eql_slice_nil (P := Try.prog) w 24 21 a n c 0 0 Try.underlying24
  obtain ⟨i0, hi, hz0, hz1, hz2⟩ := info_parts info21
  have HN := news_cells hc (.cells #[] 21)
  have HO := ownsRow_empty w 21
  go_enter Try.func50, Try.ntmps50
  go_wp2_with (at_builtin; refine wpList_append_own _ rfl (.tmp 5) (.tmp 6) 24 rfl w.heap.size 21 i0 (.int .i32 0) 1 4 Try.underlying24 hi hz0 hz1 hz2 rfl (by decide) _ 0 [] rfl HO ⟨b, o, none⟩ n c ((List.range n).map fun i => .int .i32 (Z i)) rfl ?c1 HN ?c2 ?c3 ?c4 ?c5 ?_)
  case c1 => simp
  case c2 => intro u hu; obtain ⟨x, _, rfl⟩ := List.mem_map.1 hu; rfl
  case c3 => unfold maxLen; omega
  case c4 => omega
  case c5 => simp
  intro v' w1 hown hgrow _
  obtain ⟨g, cap, f, hv, hg, hr, hcap, hf⟩ := own_row hown h0
  have HF : Hid (∀ i, i < n → f i = .int .i32 (Z i)) := fun i hi => by
    have := hf i hi
    rw [map_get n _ i hi] at this
    exact (Option.some.inj this).symm
  have HB : Hid (Below w.heap.size w w1) := ((Below.refl _ _).alloc (Nat.le_refl _) _).grown hgrow (by simp) (fun k hk => by cases hk; exact Nat.le_refl _)
  rw [hv]
  clear hf hown hgrow hv
  go_wp2
  go_ret
  exact ⟨g, cap, f, rfl, hg, hr, hcap, HF.out, HB.out⟩

set_option maxHeartbeats 1000000 in
theorem clone46_any (b o : Nat) (n c : Nat) (S : Nat → Value) (w : World) (hc : ∀ i, i < n → w.cell? ⟨b, o + i, none⟩ = some (S i)) (h0 : 0 < n) (hn : n ≤ 131072) (h1 : ∀ i, i < n → (S i).oneCell' = true) :
    Calls Try.prog 46 #[.slice (some ⟨b, o, none⟩) n c] w fun e w' => ∃ g cap f, e = .returned (.slice (some ⟨g, 0, none⟩) n cap) ∧ w.heap.size ≤ g ∧ w'.rowIs g 24 cap f ∧ n ≤ cap ∧ (∀ i, i < n → f i = S i) ∧ Below w.heap.size w w' := by
  have hq2 := fun w a n c => Lib.run_eql_slice_nil (P := Try.prog) w 22 24 a n c 0 0 Try.underlying22
  obtain ⟨i0, hi, hz0, hz1, hz2⟩ := info_parts info24
  have HN := news_cells hc (.cells #[] 24)
  have HO := ownsRow_empty w 24
  go_enter Try.func46, Try.ntmps46
  go_wp2_with (at_builtin; refine wpList_append_own _ rfl (.tmp 5) (.tmp 6) 22 rfl w.heap.size 24 i0 (.slice none 0 0) 1 24 Try.underlying22 hi hz0 hz1 hz2 rfl (by decide) _ 0 [] rfl HO ⟨b, o, none⟩ n c ((List.range n).map S) rfl ?c1 HN ?c2 ?c3 ?c4 ?c5 ?_)
  case c1 => simp
  case c2 => intro u hu; obtain ⟨x, hx, rfl⟩ := List.mem_map.1 hu; exact h1 x (List.mem_range.1 hx)
  case c3 => unfold maxLen; omega
  case c4 => omega
  case c5 => simp
  intro v' w1 hown hgrow _
  obtain ⟨g, cap, f, hv, hg, hr, hcap, hf⟩ := own_row hown h0
  have HF : Hid (∀ i, i < n → f i = S i) := fun i hi => by
    have := hf i hi
    rw [map_get n _ i hi] at this
    exact (Option.some.inj this).symm
  have HB : Hid (Below w.heap.size w w1) := ((Below.refl _ _).alloc (Nat.le_refl _) _).grown hgrow (by simp) (fun k hk => by cases hk; exact Nat.le_refl _)
  rw [hv]
  clear hf hown hgrow hv
  go_wp2
  go_ret
  exact ⟨g, cap, f, rfl, hg, hr, hcap, HF.out, HB.out⟩

end Go.Proofs.Qxb6602268a.M
