/- The walks of zzCellKey and zzStateHash. -/
import Derived.Test.Qxb6602268aLast
import Derived.Test.Qxb6602268aReads
namespace Go.Proofs.Qxb6602268a.M
open Go.ChangeShapes Go.WideShapes Go.ChangeAt Go.RowKit
set_option linter.unusedVariables false

theorem mul_bd (p : Nat) (ps : Int) (hp : p ≤ 131072) (h1 : 1 ≤ ps) (h2 : ps ≤ 2147483647) : 0 ≤ (p : Int) * ps ∧ (p : Int) * ps ≤ 281474976710656 := by
  refine ⟨Int.mul_nonneg (by omega) (by omega), ?_⟩
  have a := Int.mul_le_mul_of_nonneg_right (show (p : Int) ≤ 131072 by omega) (show 0 ≤ ps by omega)
  omega

def keyRes (ps : Int) (p i : Nat) : Int := if isKey ps p i then keyAt ps p i else 0

set_option maxHeartbeats 400000 in
theorem cellKey_any (ps : Int) (p i : Nat) (w : World) (hp : p ≤ 131072) (hi : i ≤ 131072) (h1 : 1 ≤ ps) (h2 : ps ≤ 2147483647) :
    Calls Try.prog 14 #[.int .i32 ps, .int .i64 (p : Int), .int .i64 (i : Int)] w fun e w' => e = .returned (.tuple #[.int .i32 (keyRes ps p i), .bool (isKey ps p i)]) ∧ w' = w := by
  obtain ⟨m0, m1⟩ := mul_bd p ps hp h1 h2
  by_cases c1 : (i : Int) < ps
  · by_cases c2 : (p : Int) * ps + i ≤ 2147483647
    · have e : isKey ps p i = true := by unfold isKey; rw [decide_eq_true_iff]; exact ⟨c1, c2⟩
      have e2 : keyRes ps p i = (p : Int) * ps + i := by unfold keyRes; rw [if_pos e]; rfl
      rw [e, e2]
      clear e e2
      go_enter Try.func14, Try.ntmps14
      go_wp2
      go_ret2
      exact ⟨rfl, rfl⟩
    · have e : isKey ps p i = false := by unfold isKey; rw [decide_eq_false_iff_not]; exact fun x => c2 x.2
      have e2 : keyRes ps p i = 0 := by unfold keyRes; rw [e]; rfl
      rw [e, e2]
      clear e e2
      go_enter Try.func14, Try.ntmps14
      go_wp2
      go_ret2
      exact ⟨rfl, rfl⟩
  · have e : isKey ps p i = false := by unfold isKey; rw [decide_eq_false_iff_not]; exact fun x => c1 x.1
    have e2 : keyRes ps p i = 0 := by unfold keyRes; rw [e]; rfl
    rw [e, e2]
    clear e e2
    go_enter Try.func14, Try.ntmps14
    go_wp2
    go_ret2
    exact ⟨rfl, rfl⟩

theorem zzfp_any (k v : Int) (w : World) : Calls Try.prog 38 #[.int .i32 k, .int .i32 v] w fun e w' => e = .returned (.int .u64 (fpI k v)) ∧ w' = w := by
  go_enter Try.func38, Try.ntmps38
  go_wp2_with fail
  refine (fp_any k v _).mono ?_
  rintro e w' ⟨rfl, rfl⟩
  go_wp2_with fail
  go_ret
  exact ⟨rfl, rfl⟩

set_option maxHeartbeats 2000000 in
theorem stateHash_any (ps : Int) (a : Option Addr) (n c : Nat) (A : Nat → Option Addr) (L C : Nat → Nat) (Z : Nat → Nat → Int) (w : World) (hp : Pages w a n A L C Z) (hn : n ≤ 131072) (hL : ∀ r, r < n → L r ≤ 131072) (h1 : 1 ≤ ps) (h2 : ps ≤ 2147483647) :
    Calls Try.prog 15 #[.int .i32 ps, .slice a n c] w fun e w' => e = .returned (.int .u64 (SH fpI ps L Z n)) ∧ w' = w := by
  go_enter Try.func15, Try.ntmps15
  go_wp2
  go_loop [5, 6] (fun x i => ∃ k : Nat, k ≤ n ∧ i = .int .i64 k ∧ x = .int .u64 (SH fpI ps L Z k)) (fun _ i => n - (intOf i).toNat)
  case atStart => exact ⟨0, Nat.zero_le _, rfl, rfl⟩
  case round =>
    obtain ⟨k, hk, rfl, rfl⟩ := hrel
    by_cases hlt : k < n
    · obtain ⟨b, o, rfl, hc⟩ := hp.top (by omega)
      have hck := hc k hlt
      have hLk := hL k hlt
      have hr := hp.row k hlt
      clear hc hL
      go_wp2
      go_loop [5, 7] (fun x i => ∃ j : Nat, j ≤ L k ∧ i = .int .i64 j ∧ x = .int .u64 (rowH fpI ps k (Z k) j (SH fpI ps L Z k))) (fun _ i => L k - (intOf i).toNat)
      case atStart => exact ⟨0, Nat.zero_le _, rfl, rfl⟩
      case round =>
        obtain ⟨j, hj, rfl, rfl⟩ := hrel
        by_cases hjl : j < L k
        · obtain ⟨y, oy, hy, hyc⟩ := hr (by omega)
          have hcj := hyc j hjl
          rw [hy] at hck
          clear hyc hy
          go_wp2_with fail
          refine (cellKey_any ps k j _ (by omega) (by omega) h1 h2).mono ?_
          rintro e w' ⟨rfl, rfl⟩
          cases hb : isKey ps k j
          · have HS : Hid (rowH fpI ps k (Z k) (j + 1) (SH fpI ps L Z k) = rowH fpI ps k (Z k) j (SH fpI ps L Z k)) := by
              show rowH _ _ _ _ _ _ = _
              rw [rowH, if_neg (by rw [hb]; simp)]
            clear hb
            go_wp2_with fail
            go_round
            case rel => exact ⟨j + 1, by omega, by go_num, by rw [HS.out]⟩
            case measure => simp [intOf]; omega
          · have HS : Hid (rowH fpI ps k (Z k) (j + 1) (SH fpI ps L Z k) = bits .xor .u64 (rowH fpI ps k (Z k) j (SH fpI ps L Z k)) (fpI (keyRes ps k j) (Z k j))) := by
              show rowH _ _ _ _ _ _ = _
              unfold keyRes
              rw [rowH, if_pos hb, if_pos hb]; rfl
            clear hb
            go_wp2_with fail
            refine (zzfp_any _ _ _).mono ?_
            rintro e w' ⟨rfl, rfl⟩
            go_wp2_with fail
            go_round
            case rel => exact ⟨j + 1, by omega, by go_num, by rw [HS.out]⟩
            case measure => simp [intOf]; omega
        · obtain rfl : j = L k := by omega
          go_wp2
          go_round
          case rel => exact ⟨k + 1, by omega, by go_num, rfl⟩
          case measure => simp [intOf]; omega
    · obtain rfl : k = n := by omega
      go_wp2
      go_ret
      exact ⟨rfl, rfl⟩

end Go.Proofs.Qxb6602268a.M
