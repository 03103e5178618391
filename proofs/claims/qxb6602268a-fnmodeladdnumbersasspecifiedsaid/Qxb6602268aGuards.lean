/- The walks of the guards: zzMin, zzKeyInState, zzStepInDomain, zzBytes. -/
import Derived.Test.Qxb6602268aMem
namespace Go.Proofs.Qxb6602268a.M
open Go.ChangeShapes Go.WideShapes Go.ChangeAt Go.RowKit
set_option linter.unusedVariables false

theorem ret_bool {a b : Bool} (h : a = b) : Ending.returned (.bool a) = .returned (.bool b) := by rw [h]
theorem ret_int {k : IntKind} {a b : Int} (h : a = b) : Ending.returned (.int k a) = .returned (.int k b) := by rw [h]

/-- It returns a bool of which F holds. -/
def SomeBool (e : Ending) (F : Bool → Prop) : Prop := ∃ b, e = .returned (.bool b) ∧ F b

/-- Key k names a cell of n pages of the lengths L. -/
def kin (n : Nat) (L : Nat → Nat) (ps k : Int) : Bool := decide (0 ≤ k ∧ (k / ps).toNat < n ∧ (k % ps).toNat < L (k / ps).toNat)

theorem kin_iff (n : Nat) (L : Nat → Nat) (ps k : Int) : kin n L ps k = true ↔ 0 ≤ k ∧ (k / ps).toNat < n ∧ (k % ps).toNat < L (k / ps).toNat := by
  unfold kin; exact decide_eq_true_iff

theorem div_bd (k ps : Int) (h1 : 1 ≤ ps) (k1 : 0 ≤ k) : 0 ≤ k / ps ∧ k / ps ≤ k :=
  ⟨Int.ediv_nonneg k1 (by omega), Int.ediv_le_self _ k1⟩
theorem mod_bd (k ps : Int) (h1 : 1 ≤ ps) : 0 ≤ k % ps ∧ k % ps < ps :=
  ⟨Int.emod_nonneg _ (by omega), Int.emod_lt_of_pos _ (by omega)⟩

theorem min_any (x y : Nat) (w : World) (hx : x ≤ maxLen) (hy : y ≤ maxLen) :
    Calls Try.prog 9 #[.int .i64 (x : Int), .int .i64 (y : Int)] w fun e w' => e = .returned (.int .i64 ((min x y : Nat) : Int)) ∧ w' = w := by
  unfold maxLen at hx hy
  by_cases h : x < y
  · rw [Nat.min_eq_left (by omega)]
    go_enter Try.func9, Try.ntmps9
    go_wp2
    go_ret
    exact ⟨rfl, rfl⟩
  · rw [Nat.min_eq_right (by omega)]
    go_enter Try.func9, Try.ntmps9
    go_wp2
    go_ret
    exact ⟨rfl, rfl⟩

set_option maxHeartbeats 400000 in
theorem keyIn_any (ps k : Int) (a : Option Addr) (n c : Nat) (A : Nat → Option Addr) (L C : Nat → Nat) (Z : Nat → Nat → Int) (w : World) (hp : Pages w a n A L C Z)
    (h1 : 1 ≤ ps) (h2 : ps ≤ 2147483647) (k0 : -2147483648 ≤ k) (k2 : k ≤ 2147483647) (hn : n ≤ 1048576) :
    Calls Try.prog 35 #[.int .i32 ps, .slice a n c, .int .i32 k] w fun e w' => e = .returned (.bool (kin n L ps k)) ∧ ∃ nq, w' = w.drewN nq := by
  by_cases k1 : 0 ≤ k
  · obtain ⟨d0, d1⟩ := div_bd k ps h1 k1
    obtain ⟨m0, m1⟩ := mod_bd k ps h1
    by_cases hpn : (k / ps).toNat < n
    · obtain ⟨b, o, rfl, hc⟩ := hp.top (by omega)
      have hc' := hc _ hpn
      clear hc
      have d2 : k / ps < n := by omega
      have HK : Hid (kin n L ps k = decide (k % ps < (L (k / ps).toNat : Int))) := by
        show kin n L ps k = _
        rw [Bool.eq_iff_iff, kin_iff, decide_eq_true_iff]; omega
      go_enter Try.func35, Try.ntmps35
      go_wp2
      go_quiet (fail)
      go_wp2
      go_ret
      exact ⟨ret_bool HK.out.symm, _, rfl⟩
    · have d2 : ¬ k / ps < n := by omega
      have HK : Hid (kin n L ps k = false) := by
        show kin n L ps k = _
        rw [← Bool.not_eq_true, kin_iff]; omega
      go_enter Try.func35, Try.ntmps35
      go_wp2
      go_ret
      exact ⟨ret_bool HK.out.symm, 0, rfl⟩
  · have HK : Hid (kin n L ps k = false) := by
      show kin n L ps k = _
      rw [← Bool.not_eq_true, kin_iff]; omega
    go_enter Try.func35, Try.ntmps35
    go_wp2
    go_ret
    exact ⟨ret_bool HK.out.symm, 0, rfl⟩

set_option maxHeartbeats 800000 in
theorem bytes16_any (ps h r1 r2 : Int) (u : Bool) (a a1 a2 a3 a4 : Option Addr) (n c n1 c1 n2 c2 n3 c3 n4 c4 : Nat) (A : Nat → Option Addr) (L C : Nat → Nat) (Z : Nat → Nat → Int) (w : World) (hp : Pages w a n A L C Z)
    (hn : n ≤ maxLen) (hL : ∀ r, r < n → L r ≤ maxLen) (h1 : n1 ≤ maxLen) (h2 : n2 ≤ maxLen) (h3 : n3 ≤ maxLen) (h4 : n4 ≤ maxLen) :
    Calls Try.prog 16 #[.int .i32 ps, .slice a n c, .int .u64 h, .slice a1 n1 c1, .slice a2 n2 c2, .slice a3 n3 c3, .slice a4 n4 c4, .int .i64 r1, .int .i64 r2, .bool u] w
      fun e w' => SomeBool e (fun _ => True) ∧ w' = w := by
  unfold maxLen at hn hL h1 h2 h3 h4
  go_enter Try.func16, Try.ntmps16
  go_wp2
  · go_ret
    exact ⟨⟨_, rfl, trivial⟩, rfl⟩
  · go_loop [21, 22] (fun z i => ∃ (k : Nat) (q : Int), k ≤ n ∧ 0 ≤ q ∧ q ≤ 1048576 ∧ i = .int .i64 k ∧ z = .int .i64 q) (fun _ i => n - (intOf i).toNat)
    case atStart => exact ⟨0, _, Nat.zero_le _, by omega, by omega, rfl, rfl⟩
    case round =>
      obtain ⟨k, q, hk, q0, q1, rfl, rfl⟩ := hrel
      by_cases hlt : k < n
      · obtain ⟨b, o, rfl, hc⟩ := hp.top (by omega)
        have hc' := hc k hlt
        have hLk := hL k hlt
        clear hc hL
        go_wp2
        · go_ret
          exact ⟨⟨_, rfl, trivial⟩, rfl⟩
        · go_ret
          exact ⟨⟨_, rfl, trivial⟩, rfl⟩
        · go_round
          case rel => exact ⟨k + 1, q + L k, by omega, by omega, by omega, by go_num, rfl⟩
          case measure => simp [intOf]; omega
      · go_wp2
        all_goals go_ret
        all_goals exact ⟨⟨_, rfl, trivial⟩, rfl⟩

/-- What zzStepInDomain has looked at when it answers true. -/
structure Dom (ps : Int) (n : Nat) (L : Nat → Nat) (n1 n2 n3 n4 : Nat) (RK WK : Nat → Int) : Prop where
  hn : n ≤ 131072
  h1 : n1 ≤ 131072
  h2 : n2 ≤ 131072
  h3 : n3 ≤ 131072
  h4 : n4 ≤ 131072
  hL : ∀ r, r < n → L r ≤ 131072
  hps : 1 ≤ ps
  hr : ∀ i, i < min n1 n2 → kin n L ps (RK i) = true
  hw : ∀ i, i < min n3 n4 → kin n L ps (WK i) = true

set_option maxHeartbeats 2000000 in
theorem inDomain_any (ps : Int) (a a1 a2 a3 a4 : Option Addr) (n c n1 c1 n2 c2 n3 c3 n4 c4 : Nat) (A : Nat → Option Addr) (L C : Nat → Nat) (Z : Nat → Nat → Int) (RK WK : Nat → Int) (w : World) (hp : Pages w a n A L C Z)
    (i1 : Ints w a1 n1 RK) (i3 : Ints w a3 n3 WK) (hr : ∀ i, i < n1 → -2147483648 ≤ RK i ∧ RK i ≤ 2147483647) (hw : ∀ i, i < n3 → -2147483648 ≤ WK i ∧ WK i ≤ 2147483647) (hps : ps ≤ 2147483647)
    (hn : n ≤ 1048576) (hL : ∀ r, r < n → L r ≤ maxLen) (h1 : n1 ≤ 1048576) (h2 : n2 ≤ 1048576) (h3 : n3 ≤ 1048576) (h4 : n4 ≤ 1048576) :
    Calls Try.prog 8 #[.int .i32 ps, .slice a n c, .slice a1 n1 c1, .slice a2 n2 c2, .slice a3 n3 c3, .slice a4 n4 c4] w
      fun e w' => SomeBool e (fun b => b = true → Dom ps n L n1 n2 n3 n4 RK WK) ∧ ∃ nq, w' = w.drewN nq := by
  unfold maxLen at hL
  go_enter Try.func8, Try.ntmps8
  go_wp2_with fail
  · go_ret
    exact ⟨⟨_, rfl, fun h => by cases h⟩, 0, rfl⟩
  have hs : 8 * (n + n1 + n2 + n3 + n4) ≤ 1048576 := by omega
  go_loop [13, 14] (fun z i => ∃ (k : Nat) (q : Int), k ≤ n ∧ 0 ≤ q ∧ q ≤ 1048576 ∧ i = .int .i64 k ∧ z = .int .i64 q ∧ Hid (∀ r, r < k → L r ≤ 131072)) (fun _ i => n - (intOf i).toNat)
  case atStart => exact ⟨0, _, Nat.zero_le _, by omega, by omega, rfl, rfl, fun r hr => by omega⟩
  case round =>
    obtain ⟨k, q, hk, q0, q1, rfl, rfl, hLs⟩ := hrel
    by_cases hlt : k < n
    · obtain ⟨b, o, rfl, hc⟩ := hp.top (by omega)
      have hc' := hc k hlt
      have hLk := hL k hlt
      clear hc hL
      go_wp2
      · go_ret
        exact ⟨⟨_, rfl, fun h => by cases h⟩, 0, rfl⟩
      · go_ret
        exact ⟨⟨_, rfl, fun h => by cases h⟩, 0, rfl⟩
      · go_round
        case rel => exact ⟨k + 1, q + 8 * L k, by omega, by omega, by omega, by go_num, by go_num, fun r hr => by
            by_cases e : r = k
            · subst e; omega
            · exact hLs.out r (by omega)⟩
        case measure => simp [intOf]; omega
    · obtain rfl : k = n := by omega
      clear hL hlt
      by_cases hp1 : 1 ≤ ps
      · go_wp2_with fail
        refine (min_any n1 n2 _ (by unfold maxLen; omega) (by unfold maxLen; omega)).mono ?_
        rintro e w ⟨rfl, rfl⟩
        go_wp2_with fail
        go_loopw [16] (fun i wr => ∃ (j nq : Nat), j ≤ min n1 n2 ∧ i = .int .i64 j ∧ wr = w.drewN nq ∧ Hid (∀ i, i < j → kin k L ps (RK i) = true)) (fun i _ => min n1 n2 - (intOf i).toNat)
        case atStart => exact ⟨0, 0, Nat.zero_le _, rfl, rfl, fun r hr => by omega⟩
        case round =>
          obtain ⟨j, nq, hj, rfl, rfl, hks⟩ := hrel
          by_cases hlt : j < min n1 n2
          · obtain ⟨b, o, rfl, hc⟩ := i1 (by omega)
            have hc' := hc j (by omega)
            have hrj := hr j (by omega)
            clear hc
            go_wp2_with fail
            refine (keyIn_any ps (RK j) a k c A L C Z _ (hp.drewN _) hp1 hps hrj.1 hrj.2 hn).mono ?_
            rintro e w' ⟨rfl, nq', rfl⟩
            cases hkk : kin k L ps (RK j)
            · go_wp2
              go_ret
              exact ⟨⟨_, rfl, fun h => by cases h⟩, _, rfl⟩
            · go_wp2
              go_roundw
              case rel => exact ⟨j + 1, _, by omega, by go_num, rfl, fun r hr => by
                by_cases e : r = j
                · subst e; exact hkk
                · exact hks.out r (by omega)⟩
              case measure => simp [intOf]; omega
          · obtain rfl : j = min n1 n2 := by omega
            clear hlt
            go_wp2_with fail
            refine (min_any n3 n4 _ (by unfold maxLen; omega) (by unfold maxLen; omega)).mono ?_
            rintro e w' ⟨rfl, rfl⟩
            go_wp2_with fail
            go_loopw [18] (fun i wr => ∃ (j nq : Nat), j ≤ min n3 n4 ∧ i = .int .i64 j ∧ wr = w.drewN nq ∧ Hid (∀ i, i < j → kin k L ps (WK i) = true)) (fun i _ => min n3 n4 - (intOf i).toNat)
            case atStart => exact ⟨0, nq, Nat.zero_le _, rfl, rfl, fun r hr => by omega⟩
            case round =>
              obtain ⟨j, nq, hj, rfl, rfl, hks2⟩ := hrel
              by_cases hlt : j < min n3 n4
              · obtain ⟨b, o, rfl, hc⟩ := i3 (by omega)
                have hc' := hc j (by omega)
                have hrj := hw j (by omega)
                clear hc
                go_wp2_with fail
                refine (keyIn_any ps (WK j) a k c A L C Z _ (hp.drewN _) hp1 hps hrj.1 hrj.2 hn).mono ?_
                rintro e w' ⟨rfl, nq', rfl⟩
                cases hkk : kin k L ps (WK j)
                · go_wp2
                  go_ret
                  exact ⟨⟨_, rfl, fun h => by cases h⟩, _, rfl⟩
                · go_wp2
                  go_roundw
                  case rel => exact ⟨j + 1, _, by omega, by go_num, rfl, fun r hr => by
                    by_cases e : r = j
                    · subst e; exact hkk
                    · exact hks2.out r (by omega)⟩
                  case measure => simp [intOf]; omega
              · obtain rfl : j = min n3 n4 := by omega
                go_wp2
                go_ret
                exact ⟨⟨_, rfl, fun _ => ⟨by omega, by omega, by omega, by omega, by omega, hLs.out, hp1, hks.out, hks2.out⟩⟩, _, rfl⟩
      · have hp2 : ps < 1 := by omega
        go_wp2_with fail
        go_ret
        exact ⟨⟨_, rfl, fun h => by cases h⟩, 0, rfl⟩

end Go.Proofs.Qxb6602268a.M
