/- math/big: nat.cmp of numbers of as many words, Int.Cmp. -/
import Derived.Test.Qxb6002359aBigB
namespace Go.Proofs.Qxb6002359a.B
open Go.RowKit Go.ChangeShapes Go.WideShapes Go.ChangeAt
set_option linter.unusedVariables false
set_option linter.unusedSimpArgs false

/-- the number that n words are -/
def valW (W : Nat → Nat) : Nat → Nat
  | 0 => 0
  | n + 1 => valW W n + W n * 2 ^ (64 * n)
theorem pow64_succ (n : Nat) : 2 ^ (64 * (n + 1)) = 18446744073709551616 * 2 ^ (64 * n) := by
  rw [show 64 * (n + 1) = 64 * n + 64 by omega, Nat.pow_add, Nat.mul_comm]
theorem valW_lt {W : Nat → Nat} : ∀ n, (∀ j, j < n → W j < 18446744073709551616) → valW W n < 2 ^ (64 * n)
  | 0, _ => by simp [valW]
  | n + 1, h => by
    have h1 := valW_lt n (fun j hj => h j (by omega))
    have h2 := h n (by omega)
    rw [pow64_succ]
    unfold valW
    have : W n * 2 ^ (64 * n) ≤ 18446744073709551615 * 2 ^ (64 * n) := Nat.mul_le_mul_right _ (by omega)
    omega
theorem valW_lt_at {X Y : Nat → Nat} {k : Nat} (hX : ∀ j, j < k → X j < 18446744073709551616) (h : X k < Y k) : valW X (k + 1) < valW Y (k + 1) := by
  have h1 := valW_lt k hX
  unfold valW
  have h2 : (X k + 1) * 2 ^ (64 * k) ≤ Y k * 2 ^ (64 * k) := Nat.mul_le_mul_right _ h
  rw [Nat.add_mul] at h2
  omega
theorem valW_above {X Y : Nat → Nat} {k : Nat} (h : valW X k < valW Y k) : ∀ d, (∀ j, k ≤ j → j < k + d → X j = Y j) → valW X (k + d) < valW Y (k + d)
  | 0, _ => h
  | d + 1, he => by
    have h1 := valW_above h d (fun j h1 h2 => he j h1 (by omega))
    show valW X (k + d) + X (k + d) * _ < valW Y (k + d) + Y (k + d) * _
    rw [he (k + d) (by omega) (by omega)]
    omega
theorem valW_congr {X Y : Nat → Nat} : ∀ n, (∀ j, j < n → X j = Y j) → valW X n = valW Y n
  | 0, _ => rfl
  | n + 1, h => by
    unfold valW
    rw [valW_congr n (fun j hj => h j (by omega)), h n (by omega)]
theorem cmp_lt {X Y : Nat → Nat} {k n : Nat} (hX : ∀ j, j < n → X j < 18446744073709551616) (hk : k < n) (he : ∀ j, k < j → j < n → X j = Y j) (h : X k < Y k) : valW X n < valW Y n := by
  have := valW_above (valW_lt_at (fun j hj => hX j (by omega)) h) (n - (k + 1)) (fun j h1 h2 => he j (by omega) (by omega))
  rwa [show k + 1 + (n - (k + 1)) = n by omega] at this

/-- what cmp answers -/
def cmpZ (n : Nat) (X Y : Nat → Nat) : Int := if valW X n < valW Y n then -1 else if valW Y n < valW X n then 1 else 0
theorem cmpZ_lt {X Y : Nat → Nat} {k n : Nat} (hX : ∀ j, j < n → X j < 18446744073709551616) (hk : k < n) (he : ∀ j, k < j → j < n → X j = Y j) (h : X k < Y k) : cmpZ n X Y = -1 := by
  unfold cmpZ
  rw [if_pos (cmp_lt hX hk he h)]
theorem cmpZ_gt {X Y : Nat → Nat} {k n : Nat} (hY : ∀ j, j < n → Y j < 18446744073709551616) (hk : k < n) (he : ∀ j, k < j → j < n → X j = Y j) (h : Y k < X k) : cmpZ n X Y = 1 := by
  have := cmp_lt hY hk (fun j h1 h2 => (he j h1 h2).symm) h
  unfold cmpZ
  rw [if_neg (by omega), if_pos this]
theorem cmpZ_eq {X Y : Nat → Nat} {n : Nat} (he : ∀ j, j < n → X j = Y j) : cmpZ n X Y = 0 := by
  have := valW_congr n he
  unfold cmpZ
  rw [if_neg (by omega), if_neg (by omega)]

theorem drewN_out {w wr : World} (h : ∃ q, wr = w.drewN q) (n : Nat) : ∃ q, wr.drewN n = w.drewN q := by
  obtain ⟨q, rfl⟩ := h
  exact ⟨_, World.drewN_drewN _ _ _⟩
set_option maxRecDepth 100000 in
theorem cmp_any (w : World) (gx gy n cx cy : Nat) (X Y : Nat → Nat) (h1 : 1 ≤ n) (hn : n ≤ 65536) (hX : ∀ j, j < n → X j < 18446744073709551616) (hY : ∀ j, j < n → Y j < 18446744073709551616) (hx : Wds w (some ⟨gx, 0, none⟩) n X) (hy : Wds w (some ⟨gy, 0, none⟩) n Y) :
    Calls Try.prog 64 #[.slice (some ⟨gx, 0, none⟩) n cx, .slice (some ⟨gy, 0, none⟩) n cy] w (fun e w' => e = .returned (.int .i64 (cmpZ n X Y)) ∧ ∃ q, w' = w.drewN q) := by
  obtain ⟨b, hb, hcx⟩ := hx h1
  cases hb
  obtain ⟨b, hb, hcy⟩ := hy h1
  cases hb
  have HX := hid (And.intro hX (And.intro hY (And.intro hcx hcy)))
  clear hX hY hx hy hcx hcy
  have hn0 : ((n : Int) == 0) = false := by rw [beq_eq_false_iff_ne]; omega
  have h1' : (1 : Int) ≤ n := by omega
  go_enter Try.func64, Try.ntmps64
  go_wp2_with fail
  go_loopw [7] (fun i wr => ∃ (k : Nat), k < n ∧ i = .int .i64 k ∧ Hid (∃ q, wr = w.drewN q) ∧ Hid (∀ j, k < j → j < n → X j = Y j)) (fun i _ => (intOf i).toNat)
  case atStart => exact ⟨n - 1, by omega, by rw [show ((n - 1 : Nat) : Int) = (n : Int) - 1 by omega], ⟨0, rfl⟩, fun j h1 h2 => by omega⟩
  case round =>
    obtain ⟨k, hk, rfl, HW, HE⟩ := hrel
    have cX : wr.cell? ⟨gx, k, none⟩ = some (.int .u64 (X k : Nat)) := by obtain ⟨q, e⟩ := HW.out; rw [e]; exact HX.out.2.2.1 k hk
    have cY : wr.cell? ⟨gy, k, none⟩ = some (.int .u64 (Y k : Nat)) := by obtain ⟨q, e⟩ := HW.out; rw [e]; exact HX.out.2.2.2 k hk
    have hki : (k : Int) < n := by omega
    by_cases hk0 : k = 0
    · subst hk0
      go_wp2_with fail
      go_quiet (fail)
      go_wp2_with fail
      by_cases hlt : X 0 < Y 0
      · have hd1 : decide (X 0 < Y 0) = true := by simpa using hlt
        go_quiet (fail)
        go_wp2_with fail
        go_ret
        exact ⟨by rw [cmpZ_lt HX.out.1 hk HE.out hlt]; rfl, drewN_out (drewN_out HW.out _) _⟩
      · have hd1 : decide (X 0 < Y 0) = false := by simpa using hlt
        go_quiet (fail)
        go_wp2_with fail
        by_cases hgt : Y 0 < X 0
        · have hd2 : decide (Y 0 < X 0) = true := by simpa using hgt
          go_quiet (fail)
          go_wp2_with fail
          go_ret
          exact ⟨by rw [cmpZ_gt HX.out.2.1 hk HE.out hgt]; rfl, drewN_out (drewN_out (drewN_out HW.out _) _) _⟩
        · have hd2 : decide (Y 0 < X 0) = false := by simpa using hgt
          go_quiet (fail)
          go_wp2_with fail
          go_ret
          exact ⟨by rw [cmpZ_eq (fun j hj => by rcases Nat.lt_or_ge 0 j with h | h; exact HE.out j h hj; (obtain rfl : j = 0 := by omega); omega)]; rfl, drewN_out (drewN_out (drewN_out HW.out _) _) _⟩
    · have hd : decide (0 < k) = true := by simp; omega
      by_cases hxy : X k = Y k
      · have he : ((X k : Int) == (Y k : Int)) = true := by rw [hxy]; simp
        go_wp2_with fail
        go_quiet (fail)
        go_wp2_with fail
        refine ⟨⟨k - 1, by omega, by rw [show ((k - 1 : Nat) : Int) = (k : Int) - 1 by omega], drewN_out HW.out _, fun j h1 h2 => ?_⟩, by simp only [intOf]; omega⟩
        rcases Nat.lt_or_ge k j with h | h
        · exact HE.out j h h2
        · obtain rfl : j = k := by omega
          exact hxy
      · have he : ((X k : Int) == (Y k : Int)) = false := by rw [beq_eq_false_iff_ne]; omega
        go_wp2_with fail
        go_quiet (fail)
        go_wp2_with fail
        by_cases hlt : X k < Y k
        · have hd1 : decide (X k < Y k) = true := by simpa using hlt
          go_quiet (fail)
          go_wp2_with fail
          go_ret
          exact ⟨by rw [cmpZ_lt HX.out.1 hk HE.out hlt]; rfl, drewN_out (drewN_out HW.out _) _⟩
        · have hd1 : decide (X k < Y k) = false := by simpa using hlt
          go_quiet (fail)
          go_wp2_with fail
          by_cases hgt : Y k < X k
          · have hd2 : decide (Y k < X k) = true := by simpa using hgt
            go_quiet (fail)
            go_wp2_with fail
            go_ret
            exact ⟨by rw [cmpZ_gt HX.out.2.1 hk HE.out hgt]; rfl, drewN_out (drewN_out (drewN_out HW.out _) _) _⟩
          · have hd2 : decide (Y k < X k) = false := by simpa using hgt
            go_quiet (fail)
            go_wp2_with fail
            go_ret
            exact ⟨by rw [cmpZ_eq (fun j hj => by omega)]; rfl, drewN_out (drewN_out (drewN_out HW.out _) _) _⟩
end Go.Proofs.Qxb6002359a.B
