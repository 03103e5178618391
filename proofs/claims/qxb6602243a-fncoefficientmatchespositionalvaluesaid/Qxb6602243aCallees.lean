/- The walks of the callees that several laws share. -/
import Derived.Test.Qxb6602243aRows
import Derived.WalkKit
import Derived.ProofKit
import Derived.OpenShut
import Derived.ShutString
import Derived.WalkSpells
import Derived.Test.Qxb6602243aPlain
namespace Go.Proofs.Qxb6602243a.Cal
open Go.ChangeShapes Go.WideShapes Go.ChangeAt Go.RowKit
open Pl

theorem ret_bool {a b : Bool} (h : a = b) : Ending.returned (.bool a) = .returned (.bool b) := by rw [h]
theorem ret_int {k : IntKind} {a b : Int} (h : a = b) : Ending.returned (.int k a) = .returned (.int k b) := by rw [h]

set_option maxHeartbeats 400000 in
theorem only_any (s : ByteArray) (w : World) (hs : s.size ≤ maxLen) :
    Calls Try.prog 9 #[.string s] w fun e w' => e = .returned (.bool (allD s.data.toList)) ∧ w' = w := by
  unfold maxLen at hs
  go_enter Try.func9, Try.ntmps9
  go_wp2
  go_loop [3] (fun i => ∃ k : Nat, k ≤ s.size ∧ i = .int .i64 k ∧ Hid (allD (s.data.toList.take k) = true)) (fun i => s.size - (intOf i).toNat)
  case atStart => exact ⟨0, Nat.zero_le _, rfl, rfl⟩
  case round =>
    obtain ⟨k, hk, rfl, hd⟩ := hrel
    by_cases hlt : k < s.size
    · have HY : Hid (48 ≤ (s[k].toNat : Int) ∧ (s[k].toNat : Int) ≤ 57 → allD (s.data.toList.take (k + 1)) = true) := by
        intro h; rw [take_snoc s k hlt, allD_snoc, hd.out, (isDig_iff _).2 h]; rfl
      have HN : Hid (¬ (48 ≤ (s[k].toNat : Int) ∧ (s[k].toNat : Int) ≤ 57) → allD s.data.toList = false) := by
        intro h; exact allD_no s k hlt (by rw [← Bool.not_eq_true]; exact fun e => h ((isDig_iff _).1 e))
      go_wp2
      · go_ret
        exact ⟨ret_bool (by rw [HN.out (by omega)]), rfl⟩
      · go_round
        case rel => exact ⟨k + 1, by omega, by go_num, HY.out (by omega)⟩
        case measure => simp [intOf]; omega
      · go_ret
        exact ⟨ret_bool (by rw [HN.out (by omega)]), rfl⟩
    · go_wp2
      go_ret
      exact ⟨ret_bool (by rw [← take_all s, show s.size = k by omega, hd.out]), rfl⟩

theorem ne_empty (s : ByteArray) (h0 : 0 < s.size) : s.toList.isEmpty = false := by
  rw [ByteArray.toList_eq]
  have : s.data.toList.length ≠ 0 := by simpa using (by omega : s.size ≠ 0)
  cases h : s.data.toList with
  | nil => rw [h] at this; exact absurd rfl this
  | cons a l => rfl

set_option maxHeartbeats 400000 in
theorem allDigits_any (s : ByteArray) (w : World) (hs : s.size ≤ maxLen) (h0 : 0 < s.size) :
    Calls Try.prog 20 #[.string s] w fun e w' => e = .returned (.bool (allD s.data.toList)) ∧ w' = w := by
  unfold maxLen at hs
  have hne : s.toList.isEmpty = false := ne_empty s h0
  go_enter Try.func20, Try.ntmps20
  go_wp2
  go_loop [8] (fun i => ∃ k : Nat, k ≤ s.size ∧ i = .int .i64 k ∧ Hid (allD (s.data.toList.take k) = true)) (fun i => s.size - (intOf i).toNat)
  case atStart => exact ⟨0, Nat.zero_le _, rfl, rfl⟩
  case round =>
    obtain ⟨k, hk, rfl, hd⟩ := hrel
    by_cases hlt : k < s.size
    · have HY : Hid (48 ≤ (s[k].toNat : Int) ∧ (s[k].toNat : Int) ≤ 57 → allD (s.data.toList.take (k + 1)) = true) := by
        intro h; rw [take_snoc s k hlt, allD_snoc, hd.out, (isDig_iff _).2 h]; rfl
      have HN : Hid (¬ (48 ≤ (s[k].toNat : Int) ∧ (s[k].toNat : Int) ≤ 57) → allD s.data.toList = false) := by
        intro h; exact allD_no s k hlt (by rw [← Bool.not_eq_true]; exact fun e => h ((isDig_iff _).1 e))
      go_wp2
      · go_ret
        exact ⟨ret_bool (by rw [HN.out (by omega)]), rfl⟩
      · go_round
        case rel => exact ⟨k + 1, by omega, by go_num, HY.out (by omega)⟩
        case measure => simp [intOf]; omega
      · go_ret
        exact ⟨ret_bool (by rw [HN.out (by omega)]), rfl⟩
    · go_wp2
      go_ret
      exact ⟨ret_bool (by rw [← take_all s, show s.size = k by omega, hd.out]), rfl⟩

theorem allDigits_none (s : ByteArray) (w : World) (h0 : s.toList.isEmpty = true) :
    Calls Try.prog 20 #[.string s] w fun e w' => e = .returned (.bool false) ∧ w' = w := by
  go_enter Try.func20, Try.ntmps20
  go_wp2
  go_ret
  exact ⟨rfl, rfl⟩

theorem isDig_not (b : UInt8) (h : ¬ (48 ≤ (b.toNat : Int) ∧ (b.toNat : Int) ≤ 57)) : isDig b = false := by
  rw [← Bool.not_eq_true]; exact fun e => h ((isDig_iff _).1 e)

theorem digitByte_any (b : UInt8) (w : World) :
    Calls Try.prog 16 #[.int .u8 (b.toNat : Int)] w fun e w' => e = .returned (.bool (isDig b)) ∧ w' = w := by
  by_cases h : 48 ≤ (b.toNat : Int) ∧ (b.toNat : Int) ≤ 57
  · rw [(isDig_iff b).2 h]
    obtain ⟨h1, h2⟩ := h
    go_enter Try.func16, Try.ntmps16
    go_wp2
    all_goals go_ret
    all_goals exact ⟨rfl, rfl⟩
  · rw [isDig_not b h]
    have h' : (b.toNat : Int) < 48 ∨ 57 < (b.toNat : Int) := by omega
    clear h
    rcases h' with h | h
    · go_enter Try.func16, Try.ntmps16
      go_wp2
      go_ret
      exact ⟨rfl, rfl⟩
    · go_enter Try.func16, Try.ntmps16
      go_wp2
      go_ret
      exact ⟨rfl, rfl⟩

end Go.Proofs.Qxb6602243a.Cal
