/- The walk of FnCoefficientMatchesPositionalValue. -/
import Derived.Test.Qxb6602243aCoef
namespace Go.Proofs.Qxb6602243a.Cal
open Go.ChangeShapes Go.WideShapes Go.ChangeAt Go.RowKit
open Pl

def pw (m : Nat) : Int := 10 ^ m
theorem pw_succ (m : Nat) : pw (m + 1) = pw m * 10 := Int.pow_succ _ _
theorem pw_bd (m : Nat) (h : m ≤ 18) : 1 ≤ pw m ∧ pw m ≤ 1000000000000000000 := by
  refine ⟨?_, pow_le18 m h⟩
  unfold pw
  have e : (10 : Int) ^ m = ((10 ^ m : Nat) : Int) := by simp
  have : 0 < 10 ^ m := Nat.pow_pos (by omega)
  rw [e]; omega
theorem pw_17 (m : Nat) (h : m ≤ 17) : pw m ≤ 100000000000000000 := by
  have h1 := pw_succ m
  have h2 := pw_bd (m + 1) (by omega)
  omega

theorem digitValue_any (b : UInt8) (w : World) (h1 : 48 ≤ (b.toNat : Int)) (h2 : (b.toNat : Int) ≤ 57) :
    Calls Try.prog 11 #[.int .u8 (b.toNat : Int)] w fun e w' => e = .returned (.int .i64 ((b.toNat : Int) - 48)) ∧ w' = w := by
  go_enter Try.func11, Try.ntmps11
  go_wp2
  all_goals go_ret
  all_goals
    simp only [beq_iff_eq, beq_eq_false_iff_ne, and_true] at *
    exact ret_int (by omega)

set_option maxHeartbeats 400000 in
theorem pow10_any (e : Int) (m : Nat) (w : World) (he : Hid (e = (m : Int))) (hm : m ≤ 18) :
    Calls Try.prog 12 #[.int .i64 e] w fun r w' => r = .returned (.int .i64 (pw m)) ∧ w' = w := by
  rw [he.out]
  clear he
  go_enter Try.func12, Try.ntmps12
  go_wp2
  go_loop [3, 4] (fun p i => ∃ k : Nat, k ≤ m ∧ i = .int .i64 k ∧ p = .int .i64 (pw k)) (fun _ i => m - (intOf i).toNat)
  case atStart => exact ⟨0, Nat.zero_le _, rfl, rfl⟩
  case round =>
    obtain ⟨k, hk, rfl, rfl⟩ := hrel
    by_cases hlt : k < m
    · have hb := pw_bd k (by omega)
      have hc := pw_17 k (by omega)
      have HS : Hid (pw (k + 1) = pw k * 10) := pw_succ k
      go_wp2
      go_round
      case rel => exact ⟨k + 1, by omega, by go_num, by rw [HS.out]⟩
      case measure => simp [intOf]; omega
    · have : m = k := by omega
      go_wp2
      go_ret
      exact ⟨rfl, rfl⟩

theorem pw_add (a b : Nat) : pw a * pw b = pw (a + b) := (Int.pow_add 10 a b).symm

theorem sums_exist (wh fr : ByteArray) (hn : wh.size + fr.size ≤ 18) (hw : allD wh.data.toList = true) (hf : allD fr.data.toList = true) :
    ∃ U D : Nat → Int, U 0 = 0 ∧ U (wh.size + fr.size) = val 0 (wh.data.toList ++ fr.data.toList) ∧
      (∀ k, k < wh.size + fr.size → U (k + 1) = U k + (D k - 48) * pw (wh.size + fr.size - 1 - k) ∧ 48 ≤ D k ∧ D k ≤ 57 ∧
        0 ≤ (D k - 48) * pw (wh.size + fr.size - 1 - k) ∧ (D k - 48) * pw (wh.size + fr.size - 1 - k) ≤ 1000000000000000000) ∧
      (∀ k, k ≤ wh.size + fr.size → 0 ≤ U k ∧ U k ≤ 1000000000000000000) ∧
      (∀ k (h : k < wh.size), D k = (wh[k].toNat : Int)) ∧ (∀ k (h : k < fr.size), D (wh.size + k) = (fr[k].toNat : Int)) := by
  obtain ⟨G, D, hG0, hGn, hGs, hGb, hDw, hDf⟩ := digits_exist wh fr hw hf
  have hb : ∀ k, k ≤ wh.size + fr.size → 0 ≤ G k * pw (wh.size + fr.size - k) ∧ G k * pw (wh.size + fr.size - k) ≤ 1000000000000000000 := by
    intro k hk
    obtain ⟨g1, g2⟩ := hGb k hk
    have p1 := (pw_bd (wh.size + fr.size - k) (by omega)).1
    refine ⟨Int.mul_nonneg g1 (by omega), ?_⟩
    have h1 : G k * pw (wh.size + fr.size - k) ≤ pw k * pw (wh.size + fr.size - k) := Int.mul_le_mul_of_nonneg_right (Int.le_of_lt g2) (by omega)
    rw [pw_add, show k + (wh.size + fr.size - k) = wh.size + fr.size from by omega] at h1
    have := (pw_bd _ hn).2
    omega
  have hs : ∀ k, k < wh.size + fr.size → G (k + 1) * pw (wh.size + fr.size - (k + 1)) = G k * pw (wh.size + fr.size - k) + (D k - 48) * pw (wh.size + fr.size - 1 - k) := by
    intro k hk
    rw [(hGs k hk).1, show wh.size + fr.size - (k + 1) = wh.size + fr.size - 1 - k from by omega, show wh.size + fr.size - k = wh.size + fr.size - 1 - k + 1 from by omega, pw_succ, Int.add_mul, Int.mul_assoc, Int.mul_comm 10]
  refine ⟨fun k => G k * pw (wh.size + fr.size - k), D, ?_, ?_, ?_, hb, hDw, hDf⟩
  · show G 0 * _ = 0
    rw [hG0, Int.zero_mul]
  · show G _ * _ = _
    rw [hGn, Nat.sub_self]; exact Int.mul_one _
  · intro k hk
    obtain ⟨_, e1, e2⟩ := hGs k hk
    have a1 := hs k hk
    have a2 := hb (k + 1) hk
    have a3 := hb k (by omega)
    refine ⟨a1, e1, e2, Int.mul_nonneg (by omega) (by have := (pw_bd (wh.size + fr.size - 1 - k) (by omega)).1; omega), ?_⟩
    rw [a1] at a2
    omega

end Go.Proofs.Qxb6602243a.Cal
