/- The bytes' number is the words' number. -/
import Derived.Test.Qxb6002359aBigE
import Derived.Test.Qxb6002359aBval
namespace Go.Proofs.Qxb6002359a.B
set_option linter.unusedVariables false
set_option linter.unusedSimpArgs false

/-- the number that n bytes are, the first one the lowest -/
def valB (Y : Nat → Nat) : Nat → Nat
  | 0 => 0
  | n + 1 => valB Y n + Y n * 256 ^ n
theorem valB_part (Y : Nat → Nat) (j : Nat) : ∀ t, valB Y (8 * j + t) = valB Y (8 * j) + part Y j t * 256 ^ (8 * j)
  | 0 => by simp [part]
  | t + 1 => by
    show valB Y (8 * j + t) + Y (8 * j + t) * 256 ^ (8 * j + t) = _
    rw [valB_part Y j t]
    show _ = _ + (part Y j t + Y (8 * j + t) * 256 ^ t) * 256 ^ (8 * j)
    rw [Nat.add_mul, Nat.pow_add, Nat.add_assoc, Nat.mul_assoc, Nat.mul_comm (256 ^ t)]
theorem valW_bytes (Y : Nat → Nat) : ∀ m, valW (leW Y) m = valB Y (8 * m)
  | 0 => rfl
  | m + 1 => by
    show valW (leW Y) m + leW Y m * 2 ^ (64 * m) = _
    rw [show 8 * (m + 1) = 8 * m + 8 by omega, valB_part Y m 8, part_8, valW_bytes Y m, show (256 : Nat) = 2 ^ 8 by decide, ← Nat.pow_mul, show 8 * (8 * m) = 64 * m by omega]
theorem valB_stop {Y : Nat → Nat} {n : Nat} (h : ∀ t, n ≤ t → Y t = 0) : ∀ d, valB Y (n + d) = valB Y n
  | 0 => rfl
  | d + 1 => by
    show valB Y (n + d) + Y (n + d) * _ = _
    rw [valB_stop h d, h (n + d) (by omega)]
    simp
theorem valB_shift (Y : Nat → Nat) : ∀ k, valB Y (k + 1) = Y 0 + 256 * valB (fun t => Y (t + 1)) k
  | 0 => by simp [valB]
  | k + 1 => by
    show valB Y (k + 1) + Y (k + 1) * 256 ^ (k + 1) = _
    rw [valB_shift Y k]
    show _ = Y 0 + 256 * (valB (fun t => Y (t + 1)) k + Y (k + 1) * 256 ^ k)
    rw [Nat.mul_add, Nat.pow_succ, Nat.mul_comm (256 ^ k) 256, ← Nat.mul_assoc, ← Nat.mul_assoc, Nat.mul_comm 256 (Y (k + 1)), Nat.add_assoc]
theorem valB_congr {X Y : Nat → Nat} : ∀ n, (∀ j, j < n → X j = Y j) → valB X n = valB Y n
  | 0, _ => rfl
  | n + 1, h => by
    unfold valB
    rw [valB_congr n (fun j hj => h j (by omega)), h n (by omega)]
theorem valB_leB (Z : Nat → Nat) : ∀ n, valB (leB Z n) n = bval Z n
  | 0 => rfl
  | n + 1 => by
    rw [valB_shift]
    have e : valB (fun t => leB Z (n + 1) (t + 1)) n = valB (leB Z n) n := valB_congr n (fun j hj => by
      unfold leB
      rw [if_pos (by omega), if_pos (by omega)]
      congr 1
      omega)
    rw [e, valB_leB Z n]
    show leB Z (n + 1) 0 + _ = bval Z n * 256 + Z n
    have : leB Z (n + 1) 0 = Z n := by unfold leB; rw [if_pos (by omega)]; rfl
    omega
theorem valW_bval (Z : Nat → Nat) (n : Nat) : valW (leW (leB Z n)) ((n + 7) / 8) = bval Z n := by
  rw [valW_bytes, show 8 * ((n + 7) / 8) = n + (8 * ((n + 7) / 8) - n) by omega, valB_stop (fun t ht => by unfold leB; rw [if_neg (by omega)]), valB_leB]
theorem leW_lt {Y : Nat → Nat} (h : ∀ t, Y t ≤ 255) (j : Nat) : leW Y j < 18446744073709551616 := by
  rw [← part_8]
  exact part_lt h j 8
theorem valW_cut {W : Nat → Nat} {n : Nat} (k : Nat) : ∀ d, (∀ j, k ≤ j → j < k + d → W j = 0) → valW W (k + d) = valW W k
  | 0, _ => rfl
  | d + 1, h => by
    show valW W (k + d) + W (k + d) * _ = _
    rw [valW_cut (n := n) k d (fun j h1 h2 => h j h1 (by omega)), h (k + d) (by omega) (by omega)]
    simp
end Go.Proofs.Qxb6002359a.B
