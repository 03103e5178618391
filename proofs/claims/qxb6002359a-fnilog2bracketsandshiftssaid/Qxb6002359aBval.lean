/- The plain side of the ilog2 law: bytes, words, powers of two. -/
import Derived.Test.Qxb6002359aRows
namespace Go.Proofs.Qxb6002359a.B
set_option linter.unusedVariables false
set_option linter.unusedSimpArgs false

/-- the number that n bytes are, the first one the highest -/
def bval (Z : Nat → Nat) : Nat → Nat
  | 0 => 0
  | n + 1 => bval Z n * 256 + Z n
theorem bval_congr {X Y : Nat → Nat} : ∀ n, (∀ j, j < n → X j = Y j) → bval X n = bval Y n
  | 0, _ => rfl
  | n + 1, h => by
    unfold bval
    rw [bval_congr n (fun j hj => h j (by omega)), h n (by omega)]

/-- what ilog2 answers at X and at 1/X -/
def lg (X : Nat) : Int := (Nat.log2 X : Nat)
def lgInv (X : Nat) : Int := if X = 2 ^ Nat.log2 X then -(Nat.log2 X : Nat) else -(Nat.log2 X : Nat) - 1
theorem log2_256 {X : Nat} (h : X ≠ 0) : Nat.log2 (X * 256) = Nat.log2 X + 8 := by
  rw [Nat.log2_eq_iff (by omega)]
  have h1 := Nat.log2_self_le h
  have h2 : X < 2 ^ (Nat.log2 X + 1) := Nat.lt_log2_self
  have e1 : 2 ^ (Nat.log2 X + 8) = 2 ^ Nat.log2 X * 256 := by rw [Nat.pow_add]
  have e2 : 2 ^ (Nat.log2 X + 8 + 1) = 2 ^ (Nat.log2 X + 1) * 256 := by rw [show Nat.log2 X + 8 + 1 = Nat.log2 X + 1 + 8 by omega, Nat.pow_add]
  omega
theorem lg_256 {X : Nat} (h : X ≠ 0) : lg (X * 256) = lg X + 8 := by
  unfold lg
  rw [log2_256 h]
  omega
theorem lgInv_256 {X : Nat} (h : X ≠ 0) : lgInv (X * 256) = lgInv X - 8 := by
  have e1 : 2 ^ (Nat.log2 X + 8) = 2 ^ Nat.log2 X * 256 := by rw [Nat.pow_add]
  unfold lgInv
  rw [log2_256 h, e1]
  by_cases hp : X = 2 ^ Nat.log2 X
  · rw [if_pos hp, if_pos (by omega)]; omega
  · rw [if_neg hp, if_neg (by omega)]; omega

/-- the ones in X's bits -/
def pc (X : Nat) : Nat := if h : X = 0 then 0 else X % 2 + pc (X / 2)
decreasing_by omega
theorem pc_zero : pc 0 = 0 := by unfold pc; simp
theorem pc_step (X : Nat) : pc X = X % 2 + pc (X / 2) := by
  by_cases h : X = 0
  · subst h; simp [pc_zero]
  · rw [pc, dif_neg h]
theorem pc_add (x : Nat) : ∀ (t b : Nat), b < 2 ^ t → pc (x * 2 ^ t + b) = pc x + pc b
  | 0, b, h => by
    obtain rfl : b = 0 := by omega
    simp [pc_zero]
  | t + 1, b, h => by
    rw [Nat.pow_succ] at *
    rw [pc_step (x * (2 ^ t * 2) + b), pc_step b, ← Nat.mul_assoc]
    have e1 : (x * 2 ^ t * 2 + b) % 2 = b % 2 := by omega
    have e2 : (x * 2 ^ t * 2 + b) / 2 = x * 2 ^ t + b / 2 := by omega
    rw [e1, e2, pc_add x t (b / 2) (by omega)]
    omega
theorem pc_le : ∀ (t b : Nat), b < 2 ^ t → pc b ≤ t
  | 0, b, h => by
    obtain rfl : b = 0 := by omega
    simp [pc_zero]
  | t + 1, b, h => by
    rw [Nat.pow_succ] at h
    have := pc_le t (b / 2) (by omega)
    rw [pc_step]
    omega
theorem pc_bval {Z : Nat → Nat} {n : Nat} (h : Z n ≤ 255) : pc (bval Z (n + 1)) = pc (bval Z n) + pc (Z n) := pc_add (bval Z n) 8 (Z n) (by omega)
theorem pc_bval_le {Z : Nat → Nat} : ∀ n, (∀ i, i < n → Z i ≤ 255) → pc (bval Z n) ≤ 8 * n
  | 0, _ => by simp [bval, pc_zero]
  | n + 1, h => by
    rw [pc_bval (h n (by omega))]
    have := pc_bval_le n (fun i hi => h i (by omega))
    have := pc_le 8 (Z n) (by have := h n (by omega); omega)
    omega
theorem pc_eq0 : ∀ (X : Nat), pc X = 0 → X = 0 := by
  intro X
  induction X using Nat.strongRecOn with
  | ind X ih =>
    intro h
    by_cases h0 : X = 0
    · exact h0
    · rw [pc_step] at h
      have := ih (X / 2) (by omega) (by omega)
      omega
theorem pc_one : ∀ (X : Nat), pc X = 1 → ∃ k, X = 2 ^ k := by
  intro X
  induction X using Nat.strongRecOn with
  | ind X ih =>
    intro h
    by_cases h0 : X = 0
    · subst h0; rw [pc_zero] at h; omega
    · rw [pc_step] at h
      by_cases h2 : X % 2 = 0
      · obtain ⟨k, hk⟩ := ih (X / 2) (by omega) (by omega)
        exact ⟨k + 1, by rw [Nat.pow_succ]; omega⟩
      · have := pc_eq0 (X / 2) (by omega)
        exact ⟨0, by simp; omega⟩
theorem pc_pow : ∀ k, pc (2 ^ k) = 1
  | 0 => by rw [pc_step]; simp [pc_zero]
  | k + 1 => by
    rw [pc_step, Nat.pow_succ]
    have e1 : 2 ^ k * 2 % 2 = 0 := by omega
    have e2 : 2 ^ k * 2 / 2 = 2 ^ k := by omega
    rw [e1, e2, pc_pow k]
theorem pc_iff (X : Nat) : pc X = 1 ↔ X = 2 ^ Nat.log2 X := by
  constructor
  · intro h
    obtain ⟨k, rfl⟩ := pc_one X h
    rw [Nat.log2_two_pow]
  · intro h
    rw [h]
    exact pc_pow _
theorem lgInv_pow {X : Nat} (h : pc X = 1) : lgInv X = -lg X := by
  unfold lgInv lg
  rw [if_pos ((pc_iff X).1 h)]
theorem lgInv_not {X : Nat} (h : pc X ≠ 1) : lgInv X = -lg X - 1 := by
  unfold lgInv lg
  rw [if_neg (fun e => h ((pc_iff X).2 e))]
/-- the least k with X at most 2 ^ k -/
theorem lgInv_ceil {X k : Nat} (h0 : X ≠ 0) (hlt : ∀ j, j < k → 2 ^ j < X) (hle : X ≤ 2 ^ k) : lgInv X = -(k : Nat) := by
  have h1 := Nat.log2_self_le h0
  have h2 : X < 2 ^ (Nat.log2 X + 1) := Nat.lt_log2_self
  have h3 : k ≤ Nat.log2 X + 1 := by
    rcases Nat.lt_or_ge (Nat.log2 X + 1) k with h | h
    · have := hlt _ h; omega
    · exact h
  unfold lgInv
  by_cases hp : X = 2 ^ Nat.log2 X
  · rw [if_pos hp]
    have h4 : ¬ Nat.log2 X < k := fun h => by have := hlt _ h; omega
    have h5 : 2 ^ Nat.log2 X ≤ 2 ^ k := by omega
    have := (Nat.pow_le_pow_iff_right (a := 2) (by omega)).1 h5
    omega
  · rw [if_neg hp]
    have h5 : 2 ^ Nat.log2 X < 2 ^ k := by omega
    have := (Nat.pow_lt_pow_iff_right (a := 2) (by omega)).1 h5
    omega
theorem bval_zero {Z : Nat → Nat} : ∀ n, (∀ i, i < n → Z i = 0) → bval Z n = 0
  | 0, _ => rfl
  | n + 1, h => by
    unfold bval
    rw [bval_zero n (fun i hi => h i (by omega)), h n (by omega)]
theorem bval_pos {Z : Nat → Nat} {n i : Nat} (hi : i < n) (h : Z i ≠ 0) : bval Z n ≠ 0 := by
  induction n with
  | zero => omega
  | succ n ih =>
    unfold bval
    by_cases e : i = n
    · subst e; omega
    · have := ih (by omega); omega
/-- after zeros, few bytes are a small number -/
theorem bval_small {Z : Nat → Nat} {i0 : Nat} (h0 : ∀ i, i < i0 → Z i = 0) : ∀ d, (∀ i, i < i0 + d → Z i ≤ 255) → bval Z (i0 + d) < 256 ^ d
  | 0, _ => by rw [Nat.add_zero, bval_zero i0 h0]; decide
  | d + 1, h => by
    have h1 := bval_small h0 d (fun i hi => h i (by omega))
    have h2 := h (i0 + d) (by omega)
    show bval Z (i0 + d) * 256 + Z (i0 + d) < _
    rw [Nat.pow_succ]
    omega
end Go.Proofs.Qxb6002359a.B
