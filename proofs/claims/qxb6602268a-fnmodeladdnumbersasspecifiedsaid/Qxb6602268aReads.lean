/- The walks of zzSamePages, zzReadsHold. -/
import Derived.Test.Qxb6602268aGuards
import Derived.Test.Qxb6602268aClone
namespace Go.Proofs.Qxb6602268a.M
open Go.ChangeShapes Go.WideShapes Go.ChangeAt Go.RowKit
set_option linter.unusedVariables false

set_option maxHeartbeats 2000000 in
theorem same_any (a a' : Option Addr) (n c c' : Nat) (A A' : Nat → Option Addr) (L C C' : Nat → Nat) (Z : Nat → Nat → Int) (w : World) (hp : Pages w a n A L C Z) (hq : Pages w a' n A' L C' Z) (hn : n ≤ 131072) (hL : ∀ r, r < n → L r ≤ 131072) :
    Calls Try.prog 13 #[.slice a n c, .slice a' n c'] w fun e w' => e = .returned (.bool true) ∧ ∃ nq, w' = w.drewN nq := by
  go_enter Try.func13, Try.ntmps13
  go_wp2
  go_loopw [5] (fun i wr => ∃ (k nq : Nat), k ≤ n ∧ i = .int .i64 k ∧ wr = w.drewN nq) (fun i _ => n - (intOf i).toNat)
  case atStart => exact ⟨0, 0, Nat.zero_le _, rfl, rfl⟩
  case round =>
    obtain ⟨k, nq, hk, rfl, rfl⟩ := hrel
    by_cases hlt : k < n
    · obtain ⟨b, o, rfl, hc⟩ := hp.top (by omega)
      obtain ⟨b', o', rfl, hc'⟩ := hq.top (by omega)
      have hck := hc k hlt
      have hck' := hc' k hlt
      have hLk := hL k hlt
      have hr := hp.row k hlt
      have hr' := hq.row k hlt
      clear hc hc' hL
      go_wp2
      go_quiet (fail)
      go_wp2
      go_loopw [6] (fun i wr => ∃ (j nq : Nat), j ≤ L k ∧ i = .int .i64 j ∧ wr = w.drewN nq) (fun i _ => L k - (intOf i).toNat)
      case atStart => exact ⟨0, _, Nat.zero_le _, rfl, World.drewN_drewN _ _ _⟩
      case round =>
        obtain ⟨j, nq, hj, rfl, rfl⟩ := hrel
        by_cases hjl : j < L k
        · obtain ⟨y, oy, hy, hyc⟩ := hr (by omega)
          obtain ⟨y', oy', hy', hyc'⟩ := hr' (by omega)
          have hcj := hyc j hjl
          have hcj' := hyc' j hjl
          rw [hy] at hck
          rw [hy'] at hck'
          clear hyc hyc' hy hy'
          go_wp2
          go_quiet (fail)
          go_wp2
          go_roundw
          case rel => exact ⟨j + 1, _, by omega, by go_num, rfl⟩
          case measure => simp [intOf]; omega
        · go_wp2
          go_roundw
          case rel => exact ⟨k + 1, _, by omega, by go_num, rfl⟩
          case measure => simp [intOf]; omega
    · go_wp2
      go_ret
      exact ⟨rfl, _, rfl⟩

/-- What key k's cell holds. -/
def cellOf (Z : Nat → Nat → Int) (ps k : Int) : Int := Z (k / ps).toNat (k % ps).toNat

/-- The first i reads hold. -/
def rh (Z : Nat → Nat → Int) (ps : Int) (RK RV : Nat → Int) : Nat → Bool
  | 0 => true
  | i + 1 => rh Z ps RK RV i && (cellOf Z ps (RK i) == RV i)

theorem rh_false {Z : Nat → Nat → Int} {ps : Int} {RK RV : Nat → Int} {i m : Nat} (h : rh Z ps RK RV i = false) (hm : i ≤ m) : rh Z ps RK RV m = false := by
  induction m with
  | zero => obtain rfl : i = 0 := by omega
            exact h
  | succ m ih =>
    by_cases e : i = m + 1
    · subst e; exact h
    · rw [rh, ih (by omega)]; rfl

set_option maxHeartbeats 2000000 in
theorem readsHold_any (ps : Int) (a a1 a2 : Option Addr) (n c n1 c1 n2 c2 nr : Nat) (A : Nat → Option Addr) (L C : Nat → Nat) (Z : Nat → Nat → Int) (RK RV : Nat → Int) (w : World) (hp : Pages w a n A L C Z)
    (i1 : Ints w a1 n1 RK) (i2 : Ints w a2 n2 RV) (hn : n ≤ 131072) (hL : ∀ r, r < n → L r ≤ 131072) (h1 : n1 ≤ 131072) (h2 : n2 ≤ 131072) (hr1 : nr ≤ n1) (hr2 : nr ≤ n2) (hps : 1 ≤ ps) (hps2 : ps ≤ 2147483647)
    (hk : ∀ i, i < nr → kin n L ps (RK i) = true) (hk2 : ∀ i, i < nr → RK i ≤ 2147483647) :
    Calls Try.prog 12 #[.int .i32 ps, .slice a n c, .slice a1 n1 c1, .slice a2 n2 c2, .int .i64 (nr : Int)] w fun e w' => e = .returned (.bool (rh Z ps RK RV nr)) ∧ ∃ nq, w' = w.drewN nq := by
  go_enter Try.func12, Try.ntmps12
  go_wp2
  go_loopw [11] (fun i wr => ∃ (k nq : Nat), k ≤ nr ∧ i = .int .i64 k ∧ wr = w.drewN nq ∧ Hid (rh Z ps RK RV k = true)) (fun i _ => nr - (intOf i).toNat)
  case atStart => exact ⟨0, 0, Nat.zero_le _, rfl, rfl, rfl⟩
  case round =>
    obtain ⟨k, nq, hkk, rfl, rfl, hrh⟩ := hrel
    by_cases hlt : k < nr
    · obtain ⟨q0, q1, q2⟩ := (kin_iff _ _ _ _).1 (hk k hlt)
      have q3 := hk2 k hlt
      obtain ⟨b, o, rfl, hc⟩ := hp.top (by omega)
      have hck := hc _ q1
      obtain ⟨y, oy, hy, hyc⟩ := hp.row _ q1 (by omega)
      have hcy := hyc _ q2
      rw [hy] at hck
      obtain ⟨b1, o1, rfl, hc1⟩ := i1 (by omega)
      have hck1 := hc1 k (by omega)
      obtain ⟨b2, o2, rfl, hc2⟩ := i2 (by omega)
      have hck2 := hc2 k (by omega)
      obtain ⟨d0, d1⟩ := div_bd (RK k) ps hps q0
      obtain ⟨m0, m1⟩ := mod_bd (RK k) ps hps
      have hLk := hL _ q1
      have d2 : RK k / ps < n := by omega
      have m2 : RK k % ps < (L (RK k / ps).toNat : Int) := by omega
      have HY : Hid ((Z (RK k / ps).toNat (RK k % ps).toNat == RV k) = true → rh Z ps RK RV (k + 1) = true) := by
        intro h; rw [rh, hrh.out]; exact h
      have HN : Hid ((Z (RK k / ps).toNat (RK k % ps).toNat == RV k) = false → rh Z ps RK RV nr = false) := by
        intro h; refine rh_false (i := k + 1) ?_ hlt; rw [rh, hrh.out]; exact h
      clear hc hyc hy hc1 hc2 hL hk hk2
      cases hz : (Z (RK k / ps).toNat (RK k % ps).toNat == RV k)
      · have hzn : (Z (RK k / ps).toNat (RK k % ps).toNat != RV k) = true := by simp [bne, hz]
        go_wp2
        go_quiet (fail)
        go_wp2
        go_ret
        exact ⟨ret_bool (HN.out hz).symm, _, World.drewN_drewN _ _ _⟩
      · have hzn : (Z (RK k / ps).toNat (RK k % ps).toNat != RV k) = false := by simp [bne, hz]
        go_wp2
        go_quiet (fail)
        go_wp2
        go_roundw
        case rel => exact ⟨k + 1, _, by omega, by go_num, rfl, HY.out hz⟩
        case measure => simp [intOf]; omega
    · obtain rfl : k = nr := by omega
      go_wp2
      go_ret
      exact ⟨ret_bool hrh.out.symm, _, rfl⟩

end Go.Proofs.Qxb6602268a.M
