/- zzFresh, zzDistinctValues. -/
import Derived.Test.Qxb6602268aPick
namespace Go.Proofs.Qxb6602268a.M
open Go.ChangeShapes Go.WideShapes Go.ChangeAt Go.RowKit Go.Maps
set_option linter.unusedVariables false

/-- zzFresh picks -/
def fG (X : Nat → ByteArray) (F : ByteArray → Option Value) (tk : ByteArray → Bool) (k : Nat) (l : List ByteArray) : Option ByteArray :=
  if (F (X k)).isSome then none else if tk (X k) then none else some (X k)

set_option maxRecDepth 100000 in
set_option maxHeartbeats 800000 in
theorem fresh_any (w : World) (a : Option Addr) (c bb s : Nat) (L : List ByteArray) (F : ByteArray → Option Value) (tv : Value) (tk : ByteArray → Bool) (hL : L.length ≤ 1048576) (hf : Fits L) (hs : Strs w a L) (hT : Tab 9 slit w bb F s)
    (htk : ∀ w', Below w.heap.size w w' → ∀ i, i < L.length → (Instr.lookup 59 tv (.string (nth L i)) false).run Try.prog w' = .ok (.bool (tk (nth L i))) w') :
    Calls Try.prog 28 #[.slice a L.length c, .map (some bb), tv] w (fun e w' => RetStrs w w' e (acc (fG (nth L) F tk) L.length)) := by
  have HS : Hid (Strs w a L) := hs
  have HF : Hid (Fits L) := hf
  have HT : Hid (Tab 9 slit w bb F s) := hT
  have HK : Hid (∀ w', Below w.heap.size w w' → ∀ i, i < L.length → (Instr.lookup 59 tv (.string (nth L i)) false).run Try.prog w' = .ok (.bool (tk (nth L i))) w') := htk
  obtain ⟨i0, hi, hz0, hz1, hz2⟩ := info_parts info9
  clear hs hf hT htk
  go_enter Try.func28, Try.ntmps28
  go_wp2_with (at_make; refine wpList_make_own _ rfl _ _ 40 rfl w.heap.size 9 i0 (.string ByteArray.empty) 1 Try.underlying40 hi hz0 hz1 .i64 .i64 _ L.length rfl rfl rfl (by rw [hz2]; omega) (by unfold maxLen; omega) (by simp) ?_; intro w1 hown1 hg1)
  go_loopw [7, 8] (fun v i wr => ∃ k : Nat, k ≤ L.length ∧ i = .int .i64 k ∧ wr.ownsRow w.heap.size 9 1 v (acc (fG (nth L) F tk) k).length ((acc (fG (nth L) F tk) k).map Value.string) ∧ Below w.heap.size w wr) (fun _ i _ => (L.length - (intOf i).toNat))
  case atStart => exact ⟨0, Nat.zero_le _, rfl, by simpa [acc] using hown1, (Below.refl _ _).grown hg1 (by simp) (fun k h => by cases h)⟩
  case round =>
    obtain ⟨k, hk, rfl, hown, hbl⟩ := hrel
    clear hown1 hg1
    by_cases hlt : k < L.length
    · obtain ⟨b, o, rfl, hc⟩ := HS.out (by omega)
      have c1 : wr.cell? ⟨b, o + k, none⟩ = some (.string (nth L k)) := (hbl.cell (lt_of_cell (hc k hlt))).trans (hc k hlt)
      have hkn : (k : Int) < L.length := by omega
      have hal := acc_len (fG (nth L) F tk) k
      have hT := HT.out.below hbl
      have hlk := HK.out wr hbl k hlt
      have hl2 := hT.look_ok strKind Try.underlying44 (zero21' _) (HF.out k)
      clear hc
      cases hin : (F (nth L k)).isSome
      · cases htk : tk (nth L k)
        · have HA : Hid (acc (fG (nth L) F tk) (k + 1) = acc (fG (nth L) F tk) k ++ [nth L k]) := acc_some (by unfold fG; simp [hin, htk])
          rw [htk] at hlk
          rw [hin] at hl2
          go_wp2_with (first | (at_builtin; refine wpList_append_own _ rfl _ _ 40 rfl w.heap.size 9 i0 (.string ByteArray.empty) 1 16 Try.underlying40 hi hz0 hz1 hz2 rfl (by decide) _ _ _ rfl (hown.alloc _) ⟨wr.heap.size, 0, none⟩ 1 1 [.string (nth L k)] rfl rfl (cell_one_new _ _ _) (str_one _) (by unfold maxLen; omega) (by omega) (by have := hbl.size; simp; omega) ?_; intro v3 w3 hown3 hg3 hnil3))
          go_roundw
          case rel =>
            refine ⟨k + 1, by omega, by go_num, by rw [HA.out]; simpa using hown3, (hbl.alloc hbl.size _).grown hg3 (by have := hbl.size; simp; omega) (fun k h => (hown.lt k h).1)⟩
          case measure => simp [intOf]; omega
        · have HA : Hid (acc (fG (nth L) F tk) (k + 1) = acc (fG (nth L) F tk) k) := acc_none (by unfold fG; simp [hin, htk])
          rw [htk] at hlk
          rw [hin] at hl2
          go_wp2_with fail
          go_roundw
          case rel => exact ⟨k + 1, by omega, by go_num, by rw [HA.out]; exact hown, hbl⟩
          case measure => simp [intOf]; omega
      · have HA : Hid (acc (fG (nth L) F tk) (k + 1) = acc (fG (nth L) F tk) k) := acc_none (by unfold fG; simp [hin])
        rw [hin] at hl2
        go_wp2_with fail
        go_roundw
        case rel => exact ⟨k + 1, by omega, by go_num, by rw [HA.out]; exact hown, hbl⟩
        case measure => simp [intOf]; omega
    · obtain rfl : k = L.length := by omega
      go_wp2_with fail
      obtain ⟨a', c', rfl, hst⟩ := strs_of_own hown
      go_ret
      exact ⟨_, _, rfl, hst, hbl⟩

/-- zzDistinctValues picks -/
noncomputable def vG (P : Nat → Option Addr) (T : Nat → ByteArray) (k : Nat) (l : List ByteArray) : Option ByteArray :=
  match P k with
  | none => none
  | some _ => @ite _ (T k ∈ l) (Classical.propDecidable _) none (some (T k))
theorem vG_nil {P : Nat → Option Addr} {T : Nat → ByteArray} {k : Nat} {l : List ByteArray} (h : P k = none) : vG P T k l = none := by unfold vG; rw [h]
theorem vG_in {P : Nat → Option Addr} {T : Nat → ByteArray} {k : Nat} {l : List ByteArray} (h : T k ∈ l) : vG P T k l = none := by
  unfold vG; cases P k
  · rfl
  · simp only; rw [if_pos h]
theorem vG_out {P : Nat → Option Addr} {T : Nat → ByteArray} {k : Nat} {l : List ByteArray} {x : Addr} (hp : P k = some x) (h : T k ∉ l) : vG P T k l = some (T k) := by unfold vG; rw [hp]; simp only; rw [if_neg h]

set_option maxRecDepth 100000 in
set_option maxHeartbeats 800000 in
theorem distinctValues_any (w : World) (a : Option Addr) (c : Nat) (L : List ByteArray) (kv : Value) (P : Nat → Option Addr) (T : Nat → ByteArray) (hL : L.length ≤ 1048576) (hf : ∀ i, (T i).size ≤ maxLen) (hs : Strs w a L)
    (hkv : ∀ w', Below w.heap.size w w' → ∀ i, i < L.length → (Instr.lookup 46 kv (.string (nth L i)) false).run Try.prog w' = .ok (.pointer (P i)) w') (hP : ∀ i, i < L.length → ∀ x, P i = some x → w.cell? x = some (.string (T i))) :
    Calls Try.prog 30 #[.slice a L.length c, kv] w (fun e w' => RetStrs w w' e (acc (vG P T) L.length)) := by
  have hmk := @run_makeMapH 59 9 4 Try.underlying59
  have HS : Hid (Strs w a L) := hs
  have HF : Hid (∀ i, (T i).size ≤ maxLen) := hf
  have HP : Hid (∀ i, i < L.length → ∀ x, P i = some x → w.cell? x = some (.string (T i))) := hP
  have HK : Hid (∀ w', Below w.heap.size w w' → ∀ i, i < L.length → (Instr.lookup 46 kv (.string (nth L i)) false).run Try.prog w' = .ok (.pointer (P i)) w') := hkv
  obtain ⟨i0, hi, hz0, hz1, hz2⟩ := info_parts info9
  clear hs hf hkv hP
  go_enter Try.func30, Try.ntmps30
  go_wp2_with (at_make; refine wpList_make_own _ rfl _ _ 40 rfl (w.heap.size + 1) 9 i0 (.string ByteArray.empty) 1 Try.underlying40 hi hz0 hz1 .i64 .i64 _ L.length rfl rfl rfl (by rw [hz2]; omega) (by unfold maxLen; omega) (by simp) ?_; intro w1 hown1 hg1)
  have s1 := hg1.size
  simp at s1
  go_loopw [6, 7] (fun v i wr => ∃ k : Nat, k ≤ L.length ∧ i = .int .i64 k ∧ Tab 9 slit wr w.heap.size (setF (acc (vG P T) k)) (acc (vG P T) k).length ∧ wr.ownsRow (w.heap.size + 1) 9 1 v (acc (vG P T) k).length ((acc (vG P T) k).map Value.string) ∧ Below w.heap.size w wr ∧ w.heap.size + 1 ≤ wr.heap.size) (fun _ i _ => (L.length - (intOf i).toNat))
  case atStart =>
    refine ⟨0, Nat.zero_le _, rfl, ?_, by simpa [acc] using hown1, ((Below.refl _ _).alloc (Nat.le_refl _) _).grown hg1 (by simp) (fun k h => by cases h), s1⟩
    have e0 : setF (acc (vG P T) 0) = fun _ => none := funext fun x => setF_out (by simp [acc])
    rw [e0]
    exact (Tab.made w).grown hg1 (by simp)
  case round =>
    obtain ⟨k, hk, rfl, hT, hown, hbl, hws⟩ := hrel
    clear hown1 hg1 s1
    by_cases hlt : k < L.length
    · obtain ⟨b, o, rfl, hc⟩ := HS.out (by omega)
      have c1 : wr.cell? ⟨b, o + k, none⟩ = some (.string (nth L k)) := (hbl.cell (lt_of_cell (hc k hlt))).trans (hc k hlt)
      have hkn : (k : Int) < L.length := by omega
      have hal := acc_len (vG P T) k
      have hlk := HK.out wr hbl k hlt
      clear hc
      cases hp : P k with
      | none =>
        rw [hp] at hlk
        have HA : Hid (acc (vG P T) (k + 1) = acc (vG P T) k) := acc_none (vG_nil hp)
        go_wp2_with fail
        go_roundw
        case rel => exact ⟨k + 1, by omega, by go_num, by rw [HA.out]; exact hT, by rw [HA.out]; exact hown, hbl, hws⟩
        case measure => simp [intOf]; omega
      | some x =>
        rw [hp] at hlk
        have hcx := HP.out k hlt x hp
        have hxb : x.block < w.heap.size := lt_of_cell hcx
        have cx : wr.cell? x = some (.string (T k)) := (hbl.cell hxb).trans hcx
        clear hcx
        by_cases hin : T k ∈ acc (vG P T) k
        · have hb : (setF (acc (vG P T) k) (T k)).getD (.bool false) = .bool true := by rw [setF_in hin]; rfl
          have HA : Hid (acc (vG P T) (k + 1) = acc (vG P T) k) := acc_none (vG_in hin)
          have hl2 := hT.look strKind Try.underlying59 (zero4 _) (HF.out k)
          rw [hb] at hl2
          clear hin hp hb
          go_wp2_with fail
          go_roundw
          case rel => exact ⟨k + 1, by omega, by go_num, by rw [HA.out]; exact hT, by rw [HA.out]; exact hown, hbl, hws⟩
          case measure => simp [intOf]; omega
        · have hb : (setF (acc (vG P T) k) (T k)).getD (.bool false) = .bool false := by rw [setF_out hin]; rfl
          have HA : Hid (acc (vG P T) (k + 1) = acc (vG P T) k ++ [T k]) := acc_some (vG_out hp hin)
          have HN : Hid (T k ∉ acc (vG P T) k) := hin
          have hl2 := hT.look strKind Try.underlying59 (zero4 _) (HF.out k)
          rw [hb] at hl2
          clear hin hp hb
          go_wp2_with (first | (at_mapUpdate; refine wp_tab_put strKind Try.underlying59 rfl _ _ _ rfl hT (by unfold maxLen; omega) rfl (T k) rfl (HF.out k) (.bool true) rfl ?_; intro w2 hT2 ht2; have c2 : w2.cell? x = some (.string (T k)) := ht2.grown.cell cx (by simp; omega); have hown2 := hown.kept ht2.grown (Or.inr (own_ne' hown (Nat.lt_succ_self _)))) | (at_builtin; refine wpList_append_own _ rfl _ _ 40 rfl (w.heap.size + 1) 9 i0 (.string ByteArray.empty) 1 16 Try.underlying40 hi hz0 hz1 hz2 rfl (by decide) _ _ _ rfl (hown2.alloc _) ⟨w2.heap.size, 0, none⟩ 1 1 [.string (T k)] rfl rfl (cell_one_new _ _ _) (str_one _) (by unfold maxLen; omega) (by omega) (by have := ht2.grown.size; simp; omega) ?_; intro v3 w3 hown3 hg3 hnil3))
          have s2 := ht2.grown.size
          have s3 := hg3.size
          simp at s3
          go_roundw
          case rel =>
            refine ⟨k + 1, by omega, by go_num, ?_, by rw [HA.out]; simpa using hown3, ((hbl.grown ht2.grown hbl.size (fun k h => by cases h; exact Nat.le_refl _)).alloc (by omega) _).grown hg3 (by simp; omega) (fun k h => ?_), by omega⟩
            · rw [HA.out, ← setF_put]
              have hT3 := (hT2.alloc _).grown hg3 (own_ne hown2 (Nat.lt_succ_self _))
              rw [setF_out HN.out] at hT3
              simpa using hT3
            · have := (hown2.lt k h).1
              omega
          case measure => simp [intOf]; omega
    · obtain rfl : k = L.length := by omega
      go_wp2_with fail
      obtain ⟨a', c', rfl, hst⟩ := strs_of_own hown
      go_ret
      exact ⟨_, _, rfl, hst, hbl⟩

end Go.Proofs.Qxb6602268a.M
