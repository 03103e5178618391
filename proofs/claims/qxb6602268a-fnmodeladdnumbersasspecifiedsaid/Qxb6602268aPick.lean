/- zzDistinct, zzFresh, zzDistinctValues: lists of strings picked by a loop. -/
import Derived.Test.Qxb6602268aStrs
import Derived.Maps.AppendAt
namespace Go.Proofs.Qxb6602268a.M
open Go.ChangeShapes Go.WideShapes Go.ChangeAt Go.RowKit Go.Maps
set_option linter.unusedVariables false

/-- What has been picked behind k rounds. -/
def acc (G : Nat → List ByteArray → Option ByteArray) : Nat → List ByteArray
  | 0 => []
  | k + 1 => match G k (acc G k) with
    | some x => acc G k ++ [x]
    | none => acc G k

theorem acc_some {G : Nat → List ByteArray → Option ByteArray} {k : Nat} {x : ByteArray} (h : G k (acc G k) = some x) : acc G (k + 1) = acc G k ++ [x] := by rw [acc, h]
theorem acc_none {G : Nat → List ByteArray → Option ByteArray} {k : Nat} (h : G k (acc G k) = none) : acc G (k + 1) = acc G k := by rw [acc, h]
theorem acc_len (G : Nat → List ByteArray → Option ByteArray) : ∀ k, (acc G k).length ≤ k
  | 0 => Nat.le_refl _
  | k + 1 => by
    have := acc_len G k
    cases h : G k (acc G k) with
    | some x => rw [acc_some h]; simp; omega
    | none => rw [acc_none h]; omega

/-- the set of the strings of l, as a table -/
noncomputable def setF (l : List ByteArray) : ByteArray → Option Value := fun x => @ite _ (x ∈ l) (Classical.propDecidable _) (some (.bool true)) none
theorem setF_in {l : List ByteArray} {x : ByteArray} (h : x ∈ l) : setF l x = some (.bool true) := by unfold setF; rw [if_pos h]
theorem setF_out {l : List ByteArray} {x : ByteArray} (h : x ∉ l) : setF l x = none := by unfold setF; rw [if_neg h]
theorem setF_put (l : List ByteArray) (x : ByteArray) : upd (setF l) x (.bool true) = setF (l ++ [x]) := by
  funext y
  by_cases e : y = x
  · subst e; rw [upd_same, setF_in (by simp)]
  · rw [upd_other _ _ e]
    by_cases h : y ∈ l
    · rw [setF_in h, setF_in (by simp [h])]
    · rw [setF_out h, setF_out (by simp [h, e])]
theorem setF_bool (l : List ByteArray) (x : ByteArray) : (setF l x).getD (.bool false) = .bool (setF l x).isSome := by
  by_cases h : x ∈ l
  · rw [setF_in h]; rfl
  · rw [setF_out h]; rfl

/-- It has returned the slice of strings l. -/
def RetStrs (w w' : World) (e : Ending) (l : List ByteArray) : Prop := ∃ a' c', e = .returned (.slice a' l.length c') ∧ Strs w' a' l ∧ Below w.heap.size w w'

theorem strs_of_own {w : World} {B : Nat} {v : Value} {l : List ByteArray} (h : w.ownsRow B 9 1 v l.length (l.map Value.string)) : ∃ a c, v = .slice a l.length c ∧ Strs w a l := by
  rcases h.2 with ⟨rfl, h0⟩ | ⟨g, cap, cur, rfl, h1, h2, h3, h4, h5, h6⟩
  · exact ⟨none, 0, by rw [h0], fun hp => by omega⟩
  · refine ⟨_, _, rfl, fun hp => ⟨g, 0, rfl, fun i hi => ?_⟩⟩
    have := h.cells (g := g) rfl i (.string (nth l i)) (by simp [nth, hi])
    by_cases h0 : i = 0
    · subst h0; simpa [Addr.add] using this
    · simpa [Addr.add, h0] using this

theorem own_ne {w : World} {B b n size : Nat} {e : TypeId} {v : Value} {xs : List Value} (h : w.ownsRow B e size v n xs) (hb : b < B) : some b ≠ v.ownBlock := by
  intro e
  have := (h.lt b e.symm).1
  omega
theorem own_ne' {w : World} {B b n size : Nat} {e : TypeId} {v : Value} {xs : List Value} (h : w.ownsRow B e size v n xs) (hb : b < B) : v.ownBlock ≠ some b := fun e => own_ne h hb e.symm

theorem info9 : (Try.prog.info? 9).map (fun i => (i.zero, i.size, i.bytes)) = some (some (.string ByteArray.empty), 1, 16) := by kernel_rfl
theorem str_one (x : ByteArray) : ∀ u ∈ [Value.string x], u.oneCell' = true := by intro u hu; simp at hu; subst hu; rfl

/-- zzDistinct picks -/
noncomputable def dG (X : Nat → ByteArray) (k : Nat) (l : List ByteArray) : Option ByteArray := @ite _ (X k ∈ l) (Classical.propDecidable _) none (some (X k))
theorem dG_in {X : Nat → ByteArray} {k : Nat} {l : List ByteArray} (h : X k ∈ l) : dG X k l = none := by unfold dG; rw [if_pos h]
theorem dG_out {X : Nat → ByteArray} {k : Nat} {l : List ByteArray} (h : X k ∉ l) : dG X k l = some (X k) := by unfold dG; rw [if_neg h]

set_option maxRecDepth 100000 in
set_option maxHeartbeats 800000 in
theorem distinct_any (w : World) (a : Option Addr) (c : Nat) (L : List ByteArray) (hL : L.length ≤ 1048576) (hf : Fits L) (hs : Strs w a L) :
    Calls Try.prog 21 #[.slice a L.length c] w (fun e w' => RetStrs w w' e (acc (dG (nth L)) L.length)) := by
  have hmk := @run_makeMapH 59 9 4 Try.underlying59
  have HS : Hid (Strs w a L) := hs
  have HF : Hid (Fits L) := hf
  obtain ⟨i0, hi, hz0, hz1, hz2⟩ := info_parts info9
  clear hs hf
  go_enter Try.func21, Try.ntmps21
  go_wp2_with (at_make; refine wpList_make_own _ rfl _ _ 40 rfl (w.heap.size + 1) 9 i0 (.string ByteArray.empty) 1 Try.underlying40 hi hz0 hz1 .i64 .i64 _ L.length rfl rfl rfl (by rw [hz2]; omega) (by unfold maxLen; omega) (by simp) ?_; intro w1 hown1 hg1)
  have s1 := hg1.size
  simp at s1
  go_loopw [4, 5] (fun v i wr => ∃ k : Nat, k ≤ L.length ∧ i = .int .i64 k ∧ Tab 9 slit wr w.heap.size (setF (acc (dG (nth L)) k)) (acc (dG (nth L)) k).length ∧ wr.ownsRow (w.heap.size + 1) 9 1 v (acc (dG (nth L)) k).length ((acc (dG (nth L)) k).map Value.string) ∧ Below w.heap.size w wr ∧ w.heap.size + 1 ≤ wr.heap.size) (fun _ i _ => (L.length - (intOf i).toNat))
  case atStart =>
    refine ⟨0, Nat.zero_le _, rfl, ?_, by simpa [acc] using hown1, ((Below.refl _ _).alloc (Nat.le_refl _) _).grown hg1 (by simp) (fun k h => by cases h), s1⟩
    have e0 : setF (acc (dG (nth L)) 0) = fun _ => none := funext fun x => setF_out (by simp [acc])
    rw [e0]
    exact (Tab.made w).grown hg1 (by simp)
  case round =>
    obtain ⟨k, hk, rfl, hT, hown, hbl, hws⟩ := hrel
    clear hown1 hg1 s1
    by_cases hlt : k < L.length
    · obtain ⟨b, o, rfl, hc⟩ := HS.out (by omega)
      have c1 : wr.cell? ⟨b, o + k, none⟩ = some (.string (nth L k)) := (hbl.cell (lt_of_cell (hc k hlt))).trans (hc k hlt)
      have hob : b < w.heap.size := lt_of_cell (hc k hlt)
      have hkn : (k : Int) < L.length := by omega
      have hal := acc_len (dG (nth L)) k
      clear hc
      by_cases hin : nth L k ∈ acc (dG (nth L)) k
      · have hb : (setF (acc (dG (nth L)) k) (nth L k)).getD (.bool false) = .bool true := by rw [setF_in hin]; rfl
        have HA : Hid (acc (dG (nth L)) (k + 1) = acc (dG (nth L)) k) := acc_none (dG_in hin)
        clear hin
        go_wp2_with (at_lookup; refine wp_tab_look strKind Try.underlying59 rfl _ _ rfl (zero4 _) hT rfl (nth L k) rfl (HF.out k) ?_; rw [hb])
        go_roundw
        case rel => exact ⟨k + 1, by omega, by go_num, by rw [HA.out]; exact hT, by rw [HA.out]; exact hown, hbl, hws⟩
        case measure => simp [intOf]; omega
      · have hb : (setF (acc (dG (nth L)) k) (nth L k)).getD (.bool false) = .bool false := by rw [setF_out hin]; rfl
        have HA : Hid (acc (dG (nth L)) (k + 1) = acc (dG (nth L)) k ++ [nth L k]) := acc_some (dG_out hin)
        have HN : Hid (nth L k ∉ acc (dG (nth L)) k) := hin
        clear hin
        go_wp2_with (first | (at_lookup; refine wp_tab_look strKind Try.underlying59 rfl _ _ rfl (zero4 _) hT rfl (nth L k) rfl (HF.out k) ?_; rw [hb]) | (at_mapUpdate; refine wp_tab_put strKind Try.underlying59 rfl _ _ _ rfl hT (by unfold maxLen; omega) rfl (nth L k) rfl (HF.out k) (.bool true) rfl ?_; intro w2 hT2 ht2; have c2 : w2.cell? ⟨b, o + k, none⟩ = some (.string (nth L k)) := ht2.grown.cell c1 (by simp; omega); have hown2 := hown.kept ht2.grown (Or.inr (own_ne' hown (Nat.lt_succ_self _)))) | (at_builtin; refine wpList_append_own _ rfl _ _ 40 rfl (w.heap.size + 1) 9 i0 (.string ByteArray.empty) 1 16 Try.underlying40 hi hz0 hz1 hz2 rfl (by decide) _ _ _ rfl (hown2.alloc _) ⟨w2.heap.size, 0, none⟩ 1 1 [.string (nth L k)] rfl rfl (cell_one_new _ _ _) (str_one _) (by unfold maxLen; omega) (by omega) (by have := ht2.grown.size; simp; omega) ?_; intro v3 w3 hown3 hg3 hnil3))
        have s2 := ht2.grown.size
        have s3 := hg3.size
        simp at s3
        go_roundw
        case rel =>
          refine ⟨k + 1, by omega, by go_num, ?_, by rw [HA.out]; simpa using hown3, ((hbl.grown ht2.grown hbl.size (fun k h => by cases h; exact Nat.le_refl _)).alloc (by omega) _).grown hg3 (by simp; omega) (fun k h => ?_), by omega⟩
          · rw [HA.out, ← setF_put]
            have hT3 := (hT2.alloc _).grown hg3 (own_ne hown2 (Nat.lt_succ_self _))
            rw [setF_out HN.out] at hT3
            simpa using hT3
          · have := (hown2.lt k h).1
            omega
        case measure => simp [intOf]; omega
    · obtain rfl : k = L.length := by omega
      go_wp2_with fail
      obtain ⟨a', c', rfl, hst⟩ := strs_of_own hown
      go_ret
      exact ⟨_, _, rfl, hst, hbl⟩

end Go.Proofs.Qxb6602268a.M
