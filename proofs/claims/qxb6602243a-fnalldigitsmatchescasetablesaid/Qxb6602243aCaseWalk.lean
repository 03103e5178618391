/- The walk of FnAllDigitsMatchesCaseTable. -/
import Derived.Test.Qxb6602243aCallees
namespace Go.Proofs.Qxb6602243a.Cal
open Go.ChangeShapes Go.WideShapes Go.ChangeAt Go.RowKit
open Pl

theorem bytes15_any (s : ByteArray) (w : World) (hs : s.size ≤ 1048576) :
    Calls Try.prog 15 #[.string s] w fun e w' => e = .returned (.bool true) ∧ w' = w := by
  go_enter Try.func15, Try.ntmps15
  go_wp2
  go_ret
  exact ⟨rfl, rfl⟩

theorem zzAll_any (s : ByteArray) (w : World) (hs : s.size ≤ 1048576) (h0 : 0 < s.size) :
    Calls Try.prog 17 #[.string s] w fun e w' => e = .returned (.bool (allD s.data.toList)) ∧ w' = w := by
  go_enter Try.func17, Try.ntmps17
  go_wp2_with (go_at_call 20; refine (allDigits_any s _ (by unfold maxLen; omega) h0).mono ?_; rintro e w' ⟨rfl, rfl⟩)
  go_ret
  exact ⟨rfl, rfl⟩

theorem zzAll_none (s : ByteArray) (w : World) (h0 : s.toList.isEmpty = true) :
    Calls Try.prog 17 #[.string s] w fun e w' => e = .returned (.bool false) ∧ w' = w := by
  go_enter Try.func17, Try.ntmps17
  go_wp2_with (go_at_call 20; refine (allDigits_none s _ h0).mono ?_; rintro e w' ⟨rfl, rfl⟩)
  go_ret
  exact ⟨rfl, rfl⟩

set_option maxHeartbeats 400000 in
theorem case_walk (a0 : ByteArray) (w0 : a0.size ≤ maxLen) (w : World) :
    Calls Try.prog 6 #[.string a0] w fun e w' => e = .returned (.bool true) ∧ w' = w := by
  have w0' := w0
  unfold maxLen at w0'
  by_cases hbig : a0.size ≤ 1048576
  · go_enter Try.func6, Try.ntmps6
    go_wp2_with (go_at_call 15; refine (bytes15_any a0 _ hbig).mono ?_; rintro e w' ⟨rfl, rfl⟩)
    go_loop [3, 4] (fun n i => ∃ k : Nat, k ≤ a0.size ∧ i = .int .i64 k ∧ n = .int .i64 (cnt (a0.data.toList.take k))) (fun _ i => a0.size - (intOf i).toNat)
    case atStart => exact ⟨0, Nat.zero_le _, rfl, rfl⟩
    case round =>
      obtain ⟨k, hk, rfl, rfl⟩ := hrel
      have hd := cnt_bd (a0.data.toList.take k)
      have hl : (a0.data.toList.take k).length ≤ k := List.length_take_le _ _
      by_cases hlt : k < a0.size
      · have HS : Hid (cnt (a0.data.toList.take (k + 1)) = cnt (a0.data.toList.take k) + if isDig a0[k] = true then 1 else 0) := by
          rw [take_snoc a0 k hlt]; exact cnt_snoc _ _
        go_wp2_with (go_at_call 16; refine (digitByte_any _ _).mono ?_; rintro e w' ⟨rfl, rfl⟩)
        all_goals
          go_round
          case rel => exact ⟨k + 1, by omega, by go_num, by rw [HS.out]; first | rw [if_pos (by assumption)] | (rw [if_neg (by simp [*])]; go_num)⟩
          case measure => simp [intOf]; omega
      · by_cases h0 : 0 < a0.size
        · have HE : Hid ((cnt (a0.data.toList.take k) == (a0.size : Int)) = allD a0.data.toList) := by
            have hks : a0.size = k := by omega
            have e : a0.data.toList.take k = a0.data.toList := by rw [← hks]; exact take_all a0
            rw [e]
            exact cnt_eq a0
          go_wp2_with (go_at_call 17; refine (zzAll_any a0 _ hbig h0).mono ?_; rintro e w' ⟨rfl, rfl⟩)
          go_ret
          exact ⟨ret_bool (by rw [HE.out]; simp), rfl⟩
        · have hz : a0.toList.isEmpty = true := by
            rw [ByteArray.toList_eq]
            have : a0.data.toList.length = 0 := by simpa using (by omega : a0.size = 0)
            rw [List.eq_nil_of_length_eq_zero this]; rfl
          go_wp2_with (go_at_call 17; refine (zzAll_none a0 _ hz).mono ?_; rintro e w' ⟨rfl, rfl⟩)
          go_ret
          exact ⟨rfl, rfl⟩
  · go_enter Try.func6, Try.ntmps6
    go_wp2
    go_ret
    exact ⟨rfl, rfl⟩

end Go.Proofs.Qxb6602243a.Cal
