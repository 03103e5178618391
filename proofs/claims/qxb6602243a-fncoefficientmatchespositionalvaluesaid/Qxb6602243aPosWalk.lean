/- The walk of FnCoefficientMatchesPositionalValue, its main way. -/
import Derived.Test.Qxb6602243aPos
namespace Go.Proofs.Qxb6602243a.Cal
open Go.ChangeShapes Go.WideShapes Go.ChangeAt Go.RowKit
open Pl

/-- the ways that end at a guard -/
theorem pos_guard (s wh fr : ByteArray) (w : World) (h1 : s.size ≤ maxLen) (h2 : wh.size ≤ maxLen) (h3 : fr.size ≤ maxLen)
    (hg : ¬ s.size + wh.size + fr.size ≤ 1048576 ∨ s.size = 0 ∨ 18 < wh.size + fr.size ∨ 262144 < s.size) :
    Calls Try.prog 3 #[.string s, .string wh, .string fr] w fun e w' => e = .returned (.bool true) ∧ w' = w := by
  by_cases hb : s.size + wh.size + fr.size ≤ 1048576
  · have hg' : s.size = 0 ∨ 18 < wh.size + fr.size ∨ 262144 < s.size := by omega
    clear hg
    unfold maxLen at h1 h2 h3
    rcases hg' with h | h | h
    · have h' : ((s.size : Int) == 0) = true := by rw [beq_iff_eq]; omega
      go_enter Try.func3, Try.ntmps3
      go_wp2_with (go_at_call 8; refine (bytes8_any s wh fr _ hb).mono ?_; rintro e w' ⟨rfl, rfl⟩)
      all_goals go_ret
      all_goals exact ⟨rfl, rfl⟩
    · go_enter Try.func3, Try.ntmps3
      go_wp2_with (go_at_call 8; refine (bytes8_any s wh fr _ hb).mono ?_; rintro e w' ⟨rfl, rfl⟩)
      all_goals go_ret
      all_goals exact ⟨rfl, rfl⟩
    · go_enter Try.func3, Try.ntmps3
      go_wp2_with (go_at_call 8; refine (bytes8_any s wh fr _ hb).mono ?_; rintro e w' ⟨rfl, rfl⟩)
      all_goals go_ret
      all_goals exact ⟨rfl, rfl⟩
  · clear hg
    go_enter Try.func3, Try.ntmps3
    go_wp2_with (go_at_call 8; refine (bytes8_no s wh fr _ hb h1 h2 h3).mono ?_; rintro e w' ⟨rfl, rfl⟩)
    go_ret
    exact ⟨rfl, rfl⟩

/-- not all digits -/
theorem pos_nodig (s wh fr : ByteArray) (w : World) (hb : s.size ≤ 262144) (hs : 0 < s.size) (hn : wh.size + fr.size ≤ 18)
    (hd : allD wh.data.toList = false ∨ allD fr.data.toList = false) :
    Calls Try.prog 3 #[.string s, .string wh, .string fr] w fun e w' => e = .returned (.bool true) ∧ w' = w := by
  have m1 : wh.size ≤ maxLen := by unfold maxLen; omega
  have m2 : fr.size ≤ maxLen := by unfold maxLen; omega
  cases hw : allD wh.data.toList
  · clear hd
    go_enter Try.func3, Try.ntmps3
    go_wp2_with (first | (go_at_call 8; refine (bytes8_any s wh fr _ (by omega)).mono ?_; rintro e w' ⟨rfl, rfl⟩) | (go_at_call 9; refine (only_any wh _ m1).mono ?_; rintro e w' ⟨rfl, rfl⟩))
    go_ret
    exact ⟨rfl, rfl⟩
  · have hf : allD fr.data.toList = false := by simpa [hw] using hd
    clear hd
    go_enter Try.func3, Try.ntmps3
    go_wp2_with (go_at_call 8; refine (bytes8_any s wh fr _ (by omega)).mono ?_; rintro e w' ⟨rfl, rfl⟩)
    refine (only_any wh _ m1).mono ?_
    rintro e w' ⟨rfl, rfl⟩
    go_wp2_with fail
    refine (only_any fr _ m2).mono ?_
    rintro e w' ⟨rfl, rfl⟩
    go_wp2_with fail
    go_ret
    exact ⟨rfl, rfl⟩

set_option maxHeartbeats 2000000 in
theorem pos_main (s wh fr : ByteArray) (w : World) (hb : s.size ≤ 262144) (hs : 0 < s.size) (hn : wh.size + fr.size ≤ 18)
    (hw : allD wh.data.toList = true) (hf : allD fr.data.toList = true) (bn : Bool) (hneg : ((s[0].toNat : Int) == 45) = bn) :
    Calls Try.prog 3 #[.string s, .string wh, .string fr] w fun e w' => e = .returned (.bool true) ∧ Below w.heap.size w w' := by
  have m1 : wh.size ≤ maxLen := by unfold maxLen; omega
  have m2 : fr.size ≤ maxLen := by unfold maxLen; omega
  obtain ⟨U, D, hU0, hUn, hUs, hUb, hDw, hDf⟩ := sums_exist wh fr hn hw hf
  have HU0 : Hid (U 0 = 0) := hU0
  have HUn : Hid (U (wh.size + fr.size) = val 0 (wh.data.toList ++ fr.data.toList)) := hUn
  have HUs : Hid (∀ k, k < wh.size + fr.size → U (k + 1) = U k + (D k - 48) * pw (wh.size + fr.size - 1 - k) ∧ 48 ≤ D k ∧ D k ≤ 57 ∧
        0 ≤ (D k - 48) * pw (wh.size + fr.size - 1 - k) ∧ (D k - 48) * pw (wh.size + fr.size - 1 - k) ≤ 1000000000000000000) := hUs
  have HUb : Hid (∀ k, k ≤ wh.size + fr.size → 0 ≤ U k ∧ U k ≤ 1000000000000000000) := hUb
  have HDw : Hid (∀ k (h : k < wh.size), D k = (wh[k].toNat : Int)) := hDw
  have HDf : Hid (∀ k (h : k < fr.size), D (wh.size + k) = (fr[k].toNat : Int)) := hDf
  clear hU0 hUn hUs hUb hDw hDf
  go_enter Try.func3, Try.ntmps3
  go_wp2_with (go_at_call 8; refine (bytes8_any s wh fr _ (by omega)).mono ?_; rintro e w ⟨rfl, rfl⟩)
  refine (only_any wh _ m1).mono ?_
  rintro e w ⟨rfl, rfl⟩
  go_wp2_with fail
  refine (only_any fr _ m2).mono ?_
  rintro e w ⟨rfl, rfl⟩
  go_wp2_with fail
  refine (zzCoef_any s wh fr _ hs hn hw hf bn hneg).mono ?_
  rintro e w' ⟨rfl, rfl⟩
  have hv0 := HUb.out _ (Nat.le_refl _)
  rw [← HUn.out]
  clear HUn hw hf
  cases bn
  all_goals
    go_wp2
    go_loop [9, 10] (fun c i => ∃ k : Nat, k ≤ wh.size + fr.size ∧ i = .int .i64 k ∧ c = .int .i64 (U k)) (fun _ i => wh.size + fr.size - (intOf i).toNat)
    case atStart => exact ⟨0, Nat.zero_le _, rfl, by rw [HU0.out]⟩
    case round =>
      obtain ⟨k, hk, rfl, rfl⟩ := hrel
      have hub := HUb.out k hk
      by_cases hlt2 : k < wh.size + fr.size
      · obtain ⟨es, e1, e2, e3, e4⟩ := HUs.out k hlt2
        have ES : Hid (U (k + 1) = U k + (D k - 48) * pw (wh.size + fr.size - 1 - k)) := es
        clear es
        by_cases hlt : k < wh.size
        · rw [HDw.out k hlt] at e1 e2 e3 e4
          have ES2 : Hid (U (k + 1) = U k + ((wh[k].toNat : Int) - 48) * pw (wh.size + fr.size - 1 - k)) := by rw [← HDw.out k hlt]; exact ES.out
          clear ES
          go_wp2_with fail
          refine (digitValue_any _ _ e1 e2).mono ?_
          rintro e w' ⟨rfl, rfl⟩
          go_wp2_with fail
          refine (pow10_any _ (wh.size + fr.size - 1 - k) _ (show _ = _ by omega) (by omega)).mono ?_
          rintro e w' ⟨rfl, rfl⟩
          go_wp2_with fail
          go_round
          case rel => exact ⟨k + 1, by omega, by go_num, by rw [ES2.out]⟩
          case measure => simp [intOf]; omega
        · have hi1 : wh.size ≤ k := by omega
          have hi2 : (k : Int) - (wh.size : Int) < (fr.size : Int) := by omega
          have hq : k - wh.size < fr.size := by omega
          have eD : D k = ((fr[k - wh.size]'hq).toNat : Int) := by
            have := HDf.out (k - wh.size) hq
            rw [← this, show wh.size + (k - wh.size) = k from by omega]
          rw [eD] at e1 e2 e3 e4
          have ES2 : Hid (U (k + 1) = U k + (((fr[k - wh.size]'hq).toNat : Int) - 48) * pw (wh.size + fr.size - 1 - k)) := by rw [← eD]; exact ES.out
          clear ES eD
          go_wp2_with fail
          refine (digitValue_any _ _ e1 e2).mono ?_
          rintro e w' ⟨rfl, rfl⟩
          go_wp2_with fail
          refine (pow10_any _ (wh.size + fr.size - 1 - k) _ (show _ = _ by omega) (by omega)).mono ?_
          rintro e w' ⟨rfl, rfl⟩
          go_wp2_with fail
          go_round
          case rel => exact ⟨k + 1, by omega, by go_num, by rw [ES2.out]⟩
          case measure => simp [intOf]; omega
      · have hkn : k = wh.size + fr.size := by omega
        subst hkn
        go_wp2
        go_ret
        exact ⟨rfl, (Below.refl _ _).alloc (Nat.le_refl _) _⟩

theorem pos_walk (s wh fr : ByteArray) (h1 : s.size ≤ maxLen) (h2 : wh.size ≤ maxLen) (h3 : fr.size ≤ maxLen) (w : World) :
    Calls Try.prog 3 #[.string s, .string wh, .string fr] w fun e w' => e = .returned (.bool true) ∧ Below w.heap.size w w' := by
  by_cases hg : ¬ s.size + wh.size + fr.size ≤ 1048576 ∨ s.size = 0 ∨ 18 < wh.size + fr.size ∨ 262144 < s.size
  · exact (pos_guard s wh fr w h1 h2 h3 hg).mono fun _ _ ⟨he, hw⟩ => ⟨he, hw ▸ Below.refl _ _⟩
  · cases hw : allD wh.data.toList
    · exact (pos_nodig s wh fr w (by omega) (by omega) (by omega) (.inl hw)).mono fun _ _ ⟨he, hw⟩ => ⟨he, hw ▸ Below.refl _ _⟩
    · cases hf : allD fr.data.toList
      · exact (pos_nodig s wh fr w (by omega) (by omega) (by omega) (.inr hf)).mono fun _ _ ⟨he, hw⟩ => ⟨he, hw ▸ Below.refl _ _⟩
      · exact pos_main s wh fr w (by omega) (by omega) (by omega) hw hf _ rfl

end Go.Proofs.Qxb6602243a.Cal
