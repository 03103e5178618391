/- The law's own helpers: zzCeilLog2, zzPowerOfTwo, zzSmall. -/
import Derived.Test.Qxb6002359aSide
namespace Go.Proofs.Qxb6002359a.B
open Go.RowKit Go.ChangeShapes Go.WideShapes Go.ChangeAt
set_option linter.unusedVariables false
set_option linter.unusedSimpArgs false

set_option maxRecDepth 100000 in
theorem pow_any (w : World) (g n c : Nat) (Z : Nat → Nat) (hn : n ≤ 4096) (hz : ∀ i, i < n → w.cell? ⟨g, i, none⟩ = some (.int .u8 (Z i : Nat)) ∧ Z i ≤ 255) :
    Calls Try.prog 22 #[.slice (some ⟨g, 0, none⟩) n c] w (fun e w' => e = .returned (.bool (decide (pc (bval Z n) = 1))) ∧ w' = w) := by
  have HZ := hid hz
  clear hz
  go_enter Try.func22, Try.ntmps22
  go_wp2_with fail
  go_loopw [3, 4] (fun o i wr => ∃ (k p : Nat), k ≤ n ∧ o = .int .i64 p ∧ i = .int .i64 k ∧ wr = w ∧ Hid (p = pc (bval Z k))) (fun _ i _ => n - (intOf i).toNat)
  case atStart => exact ⟨0, 0, by omega, rfl, rfl, rfl, by show _ = _; simp [bval, pc_zero]⟩
  case round =>
    obtain ⟨k, p, hk, rfl, rfl, hw, HE⟩ := hrel
    subst hw
    by_cases hkn : k = n
    · subst hkn
      have h1 : ¬ (k : Int) < k := by omega
      go_wp2_with fail
      go_ret
      refine ⟨?_, rfl⟩
      rw [← HE.out, show decide (p = 1) = ((p : Int) == 1) by rw [Bool.eq_iff_iff]; simp; omega]
      rfl
    · have h1 : (k : Int) < n := by omega
      have c1 := (HZ.out k (by omega)).1
      have c2 := (HZ.out k (by omega)).2
      have HP : Hid (p + pc (Z k) = pc (bval Z (k + 1))) := by show _ = _; rw [pc_bval c2, HE.out]
      have hP : p + pc (Z k) ≤ 40000 := by
        rw [HP.out]
        have := pc_bval_le (Z := Z) (k + 1) (fun i hi => (HZ.out i (by omega)).2)
        omega
      go_wp2_with fail
      go_loopw [3, 5] (fun o x wx => ∃ (p' x' : Nat), o = .int .i64 p' ∧ x = .int .u8 x' ∧ wx = wr ∧ x' ≤ 255 ∧ Hid (p' + pc x' = p + pc (Z k))) (fun _ x _ => (intOf x).toNat)
      case atStart => exact ⟨p, Z k, rfl, rfl, rfl, c2, rfl⟩
      case round =>
        obtain ⟨p', x', rfl, rfl, hw, hx, HX⟩ := hrel
        subst hw
        by_cases hx0 : x' = 0
        · subst hx0
          go_wp2_with fail
          have e := HX.out
          rw [pc_zero] at e
          refine ⟨⟨k + 1, p', by omega, rfl, by simp, by simp, by show _ = _; rw [← HP.out]; omega⟩, by simp only [intOf]; omega⟩
        · have h2 : ((x' : Int) == 0) = false := by rw [beq_eq_false_iff_ne]; omega
          have hb : bits .and .u8 (x' : Int) 1 = (x' : Int) % 2 := bits_mask .u8 8 (by decide) wraps_u8 1 (by decide) _ (by omega) (by omega)
          have HX2 : Hid (p' + x' % 2 + pc (x' / 2) = p + pc (Z k)) := by have := HX.out; rw [pc_step] at this; show _ = _; omega
          have hp' : p' + 1 ≤ 40001 := by have := HX.out; omega
          go_wp2_with fail
          refine ⟨⟨p' + x' % 2, x' / 2, by simp, by simp, by simp, by omega, HX2⟩, by simp only [intOf]; omega⟩

set_option maxRecDepth 100000 in
theorem ceil_any (w : World) (X : Nat) (h0 : 1 ≤ X) (hX : X < 18446744073709551616) :
    Calls Try.prog 25 #[.int .u64 (X : Nat)] w (fun e w' => ∃ k : Nat, k ≤ 64 ∧ e = .returned (.int .i64 k) ∧ lgInv X = -(k : Int) ∧ w' = w) := by
  go_enter Try.func25, Try.ntmps25
  go_wp2_with fail
  go_loopw [3] (fun i wr => ∃ (k : Nat), k ≤ 64 ∧ i = .int .i64 k ∧ wr = w ∧ Hid (∀ j, j < k → 2 ^ j < X)) (fun i _ => 64 - (intOf i).toNat)
  case atStart => exact ⟨0, by omega, rfl, rfl, fun j hj => by omega⟩
  case round =>
    obtain ⟨k, hk, rfl, hw, HE⟩ := hrel
    subst hw
    by_cases hk64 : k = 64
    · subst hk64
      go_wp2_with fail
      go_ret
      exact ⟨64, by omega, rfl, lgInv_ceil (by omega) HE.out (by omega), rfl⟩
    · have h1 : (k : Int) < 64 := by omega
      obtain ⟨P, hP⟩ : ∃ P, 2 ^ k = P := ⟨_, rfl⟩
      have hP64 : P < 18446744073709551616 := by rw [← hP]; exact Nat.pow_lt_pow_right (a := 2) (n := 64) (by omega) (by omega)
      have hwr : IntKind.u64.wrap ((2 : Int) ^ k) = (P : Int) := by
        rw [← hP, show ((2 : Int) ^ k) = ((2 ^ k : Nat) : Int) by simp, hP]
        rw [IntKind.wrap_u64]; omega
      have HP := hid hP
      clear hP
      by_cases hle : X ≤ P
      · have h2 : ¬ (P : Int) < X := by omega
        go_wp2_with fail
        go_ret
        exact ⟨k, hk, rfl, lgInv_ceil (by omega) HE.out (by rw [HP.out]; exact hle), rfl⟩
      · have h2 : (P : Int) < X := by omega
        go_wp2_with fail
        refine ⟨⟨k + 1, by omega, by simp, by simp, fun j hj => ?_⟩, by simp only [intOf]; omega⟩
        rcases Nat.lt_or_ge j k with h | h
        · exact HE.out j h
        · obtain rfl : j = k := by omega
          rw [HP.out]; omega

theorem or_low (v z : Nat) (hz : z ≤ 255) (hv : v * 256 + z < 18446744073709551616) : bits .or .u64 ((v : Int) * 256) (z : Int) = ((v * 256 + z : Nat) : Int) := by
  have h := Nat.shiftLeft_add_eq_or_of_lt (b := z) (i := 8) (by omega) v
  rw [Nat.shiftLeft_eq] at h
  generalize hy : v * 2 ^ 8 = y at h
  have hy2 : v * 256 = y := hy
  rw [h, show (v : Int) * 256 = ((y : Nat) : Int) by omega]
  exact u64_or_nat y z (by omega) (by omega)

set_option maxRecDepth 100000 in
theorem small_any (w : World) (g n c : Nat) (Z : Nat → Nat) (hn : n ≤ 4096) (hz : ∀ i, i < n → w.cell? ⟨g, i, none⟩ = some (.int .u8 (Z i : Nat)) ∧ Z i ≤ 255) (hnz : ∃ i, i < n ∧ Z i ≠ 0) :
    Calls Try.prog 23 #[.slice (some ⟨g, 0, none⟩) n c] w (fun e w' => (e = .returned (.tuple #[.int .u64 0, .bool false]) ∨ (e = .returned (.tuple #[.int .u64 (bval Z n : Nat), .bool true]) ∧ bval Z n < 18446744073709551616)) ∧ w' = w) := by
  have HZ := hid hz
  have HN := hid hnz
  clear hz hnz
  go_enter Try.func23, Try.ntmps23
  go_wp2_with fail
  go_loopw [4] (fun i wr => ∃ (k : Nat), k < n ∧ i = .int .i64 k ∧ wr = w ∧ Hid (∀ j, j < k → Z j = 0)) (fun i _ => n - (intOf i).toNat)
  case atStart => exact ⟨0, by obtain ⟨i, hi, _⟩ := HN.out; omega, rfl, rfl, fun j hj => by omega⟩
  case round =>
    obtain ⟨k, hk, rfl, hw, HE⟩ := hrel
    subst hw
    have h1 : (k : Int) < n := by omega
    have c1 := (HZ.out k (by omega)).1
    have c2 := (HZ.out k (by omega)).2
    by_cases h0 : Z k = 0
    · have h2 : ((Z k : Int) == 0) = true := by rw [h0]; rfl
      have HH : Hid (∀ j, j < k + 1 → Z j = 0) := fun j hj => by
        rcases Nat.lt_or_ge j k with h | h
        · exact HE.out j h
        · obtain rfl : j = k := by omega
          exact h0
      have hk2 : k + 1 < n := by
        obtain ⟨i, hi, hi0⟩ := HN.out
        rcases Nat.lt_or_ge (k + 1) n with h | h
        · exact h
        · exact absurd (HH.out i (by omega)) hi0
      go_wp2_with fail
      refine ⟨⟨k + 1, hk2, by simp, by simp, HH⟩, by simp only [intOf]; omega⟩
    · have h2 : ((Z k : Int) == 0) = false := by rw [beq_eq_false_iff_ne]; omega
      by_cases h8 : n - k > 8
      · have h3 : (8 : Int) < (n : Int) - k := by omega
        go_wp2_with fail
        refine bodyPost_ret (v := .tuple #[.int .u64 0, .bool false]) (by simp [results, Try.results23, go_sem]) rfl ?_
        exact ⟨.inl rfl, rfl⟩
      · have h3 : ¬ (8 : Int) < (n : Int) - k := by omega
        go_wp2_with fail
        go_loopw [4, 5] (fun i v wx => ∃ (j : Nat), k ≤ j ∧ j ≤ n ∧ i = .int .i64 j ∧ v = .int .u64 (bval Z j : Nat) ∧ wx = wr) (fun i _ _ => n - (intOf i).toNat)
        case atStart => exact ⟨k, by omega, by omega, rfl, by rw [bval_zero k HE.out]; rfl, rfl⟩
        case round =>
          obtain ⟨j, hj, hjn, rfl, rfl, hw⟩ := hrel
          subst hw
          have HB : Hid (bval Z j < 256 ^ (j - k)) := by
            have := bval_small HE.out (j - k) (fun i hi => (HZ.out i (by omega)).2)
            rwa [show k + (j - k) = j by omega] at this
          by_cases hjn2 : j = n
          · have h4 : ¬ (j : Int) < n := by omega
            have HB2 : Hid (bval Z n < 18446744073709551616) := by
              subst hjn2
              have := HB.out
              have h9 : 256 ^ (j - k) ≤ 256 ^ 8 := Nat.pow_le_pow_right (by omega) (by omega)
              exact Nat.lt_of_lt_of_le this h9
            go_wp2_with fail
            refine bodyPost_ret (v := .tuple #[.int .u64 (bval Z n : Nat), .bool true]) (by simp [results, Try.results23, go_sem]) rfl ?_
            subst hjn2
            exact ⟨.inr ⟨rfl, HB2.out⟩, rfl⟩
          · have h4 : (j : Int) < n := by omega
            have d1 := (HZ.out j (by omega)).1
            have d2 := (HZ.out j (by omega)).2
            have HB2 : bval Z j * 256 + Z j < 18446744073709551616 := by
              have := bval_small HE.out (j + 1 - k) (fun i hi => (HZ.out i (by omega)).2)
              rw [show k + (j + 1 - k) = j + 1 by omega] at this
              have h9 : 256 ^ (j + 1 - k) ≤ 256 ^ 8 := Nat.pow_le_pow_right (by omega) (by omega)
              exact Nat.lt_of_lt_of_le this h9
            have hor := or_low _ _ d2 HB2
            go_wp2_with fail
            refine ⟨⟨j + 1, by omega, by omega, by simp, rfl, by simp⟩, by simp only [intOf]; omega⟩
end Go.Proofs.Qxb6002359a.B
