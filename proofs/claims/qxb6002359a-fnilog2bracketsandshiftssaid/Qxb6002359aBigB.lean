/- math/big: same at one slice, nat.lsh by 0 in place, Int.Lsh. -/
import Derived.Test.Qxb6002359aBigA
namespace Go.Proofs.Qxb6002359a.B
open Go.RowKit Go.ChangeShapes Go.WideShapes Go.ChangeAt
set_option linter.unusedVariables false
set_option linter.unusedSimpArgs false

theorem size87' : ∃ i, Try.prog.info? 87 = some i ∧ i.size = 1 := by
  obtain ⟨i, hi, hs⟩ := Option.map_eq_some_iff.1 size87
  exact ⟨i, hi, hs⟩
theorem eql109_same (w : World) (a : Addr) : (binOp .eql 109 (.pointer (some a)) (.pointer (some a))).run Try.prog w = .ok (.bool true) w := by
  obtain ⟨i, hi, hs⟩ := size87'
  exact run_eql_ptr_same w a Try.underlying109 hi

set_option maxRecDepth 100000 in
theorem same_self (w : World) (g n c : Nat) (h1 : 1 ≤ n) : Calls Try.prog 70 #[.slice (some ⟨g, 0, none⟩) n c, .slice (some ⟨g, 0, none⟩) n c] w (fun e w' => e = .returned (.bool true) ∧ ∃ q, w' = w.drewN q) := by
  have hq := fun w => eql109_same w ⟨g, 0, none⟩
  have hd : decide (0 < n) = true := by simp; omega
  go_enter Try.func70, Try.ntmps70
  go_wp2_with fail
  go_quiet (fail)
  go_wp2_with fail
  go_ret
  exact ⟨rfl, _, rfl⟩

set_option maxRecDepth 100000 in
theorem lsh_zero (w : World) (g n c : Nat) (h1 : 1 ≤ n) : Calls Try.prog 63 #[.slice (some ⟨g, 0, none⟩) n c, .slice (some ⟨g, 0, none⟩) n c, .int .u64 0] w (fun e w' => e = .returned (.slice (some ⟨g, 0, none⟩) n c) ∧ ∃ q, w' = w.drewN q) := by
  have HC := hid (same_self w g n c h1)
  go_enter Try.func63, Try.ntmps63
  go_wp2_with (go_at_call 70; refine HC.out.mono ?_; clear HC; rintro e w1 ⟨rfl, q, rfl⟩)
  go_ret
  exact ⟨rfl, _, rfl⟩

set_option maxRecDepth 100000 in
set_option maxHeartbeats 1600000 in
theorem intLsh_gen (w : World) (zb zo xb xo s lz cz nx cx : Nat) (az ax : Option Addr) (zn xn : Bool) (R : Option Addr → Nat → Nat → World → Prop) (hne : (⟨xb, xo, none⟩ : Addr) ≠ ⟨zb, zo + 1, none⟩) (hz : Plain w zb) (zi : IntAt w zb zo zn az lz cz) (xi : IntAt w xb xo xn ax nx cx)
    (hR : ∀ a k c w1, R a k c w1 → Below w.heap.size w w1) (hC : Calls Try.prog 63 #[.slice az lz cz, .slice ax nx cx, .int .u64 (s : Nat)] w.drew (fun e w1 => ∃ a k c, e = .returned (.slice a k c) ∧ R a k c w1)) :
    Calls Try.prog 54 #[.pointer (some ⟨zb, zo, none⟩), .pointer (some ⟨xb, xo, none⟩), .int .u64 (s : Nat)] w (fun e w' => e = .returned (.pointer (some ⟨zb, zo, none⟩)) ∧ ∃ a k c w1, R a k c w1 ∧ w' = put2 w1 zb zo (.slice a k c) xn) := by
  have HC := hid hC
  have HZ := hid (And.intro hz (And.intro zi (And.intro xi hR)))
  have z0 := zi.1
  have z1 := zi.2
  have x0 := xi.1
  have x1 := xi.2
  have hzl := lt_of_cell z0
  have hxl := lt_of_cell x0
  have HNE := hid hne
  clear hC hz zi xi hR hne
  go_enter Try.func54, Try.ntmps54
  go_wp2_with fail
  have hS : (fun w' : World => w'.cell? ⟨zb, zo + 1, none⟩ = some (.slice az lz cz) ∧ w'.cell? ⟨xb, xo + 1, none⟩ = some (.slice ax nx cx)) w.drew := ⟨z1, x1⟩
  refine wp_region_E 13 (fun w' : World => w'.cell? ⟨zb, zo + 1, none⟩ = some (.slice az lz cz) ∧ w'.cell? ⟨xb, xo + 1, none⟩ = some (.slice ax nx cx)) (by kernel_rfl) ?_
  refine wpAnyE_take (i := 0) (v := ?_) (some 7) rfl rfl (by kernel_rfl) (by kernel_rfl) (by kernel_rfl) (by kernel_rfl) (fun _ _ _ h => h) (Or.inl ⟨by rfl, ?_⟩) (by assumption) ?_
  rotate_left
  · intro w hSw; (try dsimp only at hSw); go_simp; try with_reducible rfl
  simp only [Act.put, List.setIfInBounds_toArray, List.set_cons_zero, List.set_cons_succ]
  refine wpAnyE_take (i := 1) (v := ?_) (some 8) rfl rfl (by kernel_rfl) (by kernel_rfl) (by kernel_rfl) (by kernel_rfl) (fun _ _ _ h => h) (Or.inl ⟨by rfl, ?_⟩) (by assumption) ?_
  rotate_left
  · intro w hSw; (try dsimp only at hSw); go_simp; try with_reducible rfl
  simp only [Act.put, List.setIfInBounds_toArray, List.set_cons_zero, List.set_cons_succ]
  refine wpAnyE_take (i := 2) (v := ?_) (some 9) rfl rfl (by kernel_rfl) (by kernel_rfl) (by kernel_rfl) (by kernel_rfl) (fun _ _ _ h => h) (Or.inl ⟨by rfl, ?_⟩) (by assumption) ?_
  rotate_left
  · intro w hSw; (try dsimp only at hSw); go_simp; try with_reducible rfl
  simp only [Act.put, List.setIfInBounds_toArray, List.set_cons_zero, List.set_cons_succ]
  refine wpAnyE_take (i := 3) (v := ?_) (some 10) rfl rfl (by kernel_rfl) (by kernel_rfl) (by kernel_rfl) (by kernel_rfl) (fun _ _ _ h => h) (Or.inl ⟨by rfl, ?_⟩) (by assumption) ?_
  rotate_left
  · intro w hSw; (try dsimp only at hSw); go_simp; try with_reducible rfl
  simp only [Act.put, List.setIfInBounds_toArray, List.set_cons_zero, List.set_cons_succ]
  refine wpAnyE_take (i := 4) (v := ?_) (some 11) rfl rfl (by kernel_rfl) (by kernel_rfl) (by kernel_rfl) (by kernel_rfl) (fun _ _ _ h => h) (Or.inl ⟨by rfl, ?_⟩) (by assumption) ?_
  rotate_left
  · intro w hSw; (try dsimp only at hSw); go_simp; try with_reducible rfl
  simp only [Act.put, List.setIfInBounds_toArray, List.set_cons_zero, List.set_cons_succ]
  refine wpAnyE_take (i := 5) (v := ?_) (some 12) rfl rfl (by kernel_rfl) (by kernel_rfl) (by kernel_rfl) (by kernel_rfl) (fun _ _ _ h => h) (Or.inl ⟨by rfl, ?_⟩) (by assumption) ?_
  rotate_left
  · intro w hSw; (try dsimp only at hSw); go_simp; try with_reducible rfl
  simp only [Act.put, List.setIfInBounds_toArray, List.set_cons_zero, List.set_cons_succ]
  refine wpAnyE_take (i := 6) (v := ?_) (some 13) rfl rfl (by kernel_rfl) (by kernel_rfl) (by kernel_rfl) (by kernel_rfl) (fun _ _ _ h => h) (Or.inl ⟨by rfl, ?_⟩) (by assumption) ?_
  rotate_left
  · intro w hSw; (try dsimp only at hSw); go_simp; try with_reducible rfl
  simp only [Act.put, List.setIfInBounds_toArray, List.set_cons_zero, List.set_cons_succ]
  refine wpAnyE_take (i := 7) (v := ?_) (some 14) rfl rfl (by kernel_rfl) (by kernel_rfl) (by kernel_rfl) (by kernel_rfl) (fun _ _ _ h => h) (Or.inl ⟨by rfl, ?_⟩) (by assumption) ?_
  rotate_left
  · intro w hSw; (try dsimp only at hSw); go_simp; try with_reducible rfl
  simp only [Act.put, List.setIfInBounds_toArray, List.set_cons_zero, List.set_cons_succ]
  refine wpAnyE_take (i := 8) (v := ?_) (some 15) rfl rfl (by kernel_rfl) (by kernel_rfl) (by kernel_rfl) (by kernel_rfl) (fun _ _ _ h => h) (Or.inl ⟨by rfl, ?_⟩) (by assumption) ?_
  rotate_left
  · intro w hSw; (try dsimp only at hSw); go_simp; try with_reducible rfl
  simp only [Act.put, List.setIfInBounds_toArray, List.set_cons_zero, List.set_cons_succ]
  refine wpAnyE_take (i := 9) (v := ?_) (some 16) rfl rfl (by kernel_rfl) (by kernel_rfl) (by kernel_rfl) (by kernel_rfl) (fun _ _ _ h => h) (Or.inl ⟨by rfl, ?_⟩) (by assumption) ?_
  rotate_left
  · intro w hSw; (try dsimp only at hSw); go_simp; try with_reducible rfl
  simp only [Act.put, List.setIfInBounds_toArray, List.set_cons_zero, List.set_cons_succ]
  clear z0 z1 x0 x1
  refine wpAnyE_one (i := 10) rfl (by kernel_rfl) ?_
  intro K1 hK1
  go_simp
  go_at_call 63
  refine HC.out.mono ?_
  clear HC
  rintro e w1 ⟨ra, rk, rc, rfl, hRv⟩
  have b1 := HZ.out.2.2.2 ra rk rc w1 hRv
  have zi1 := HZ.out.2.1.below b1
  have xi1 := HZ.out.2.2.1.below b1
  have f1 := (HZ.out.1.below b1).frozen
  have HS1 : Hid ((fun w' : World => w'.cell? ⟨zb, zo + 1, none⟩ = some (.slice az lz cz) ∧ w'.cell? ⟨xb, xo + 1, none⟩ = some (.slice ax nx cx)) w1) := ⟨zi1.2, xi1.2⟩
  have HRv := hid (And.intro hRv (And.intro b1 (And.intro zi1 xi1)))
  have z1' := zi1.2
  clear hRv b1 zi1 xi1
  refine hK1.out _ _ (.inr HS1.out) ?_
  clear hK1 K1
  try simp only [Act.put, List.setIfInBounds_toArray, List.set_cons_zero, List.set_cons_succ]
  refine wpAnyE_one (i := 11) rfl (by kernel_rfl) ?_
  intro K1 hK1
  go_simp
  refine hK1.out _ _ (.inr HS1.out) ?_
  clear hK1 K1
  try simp only [Act.put, List.setIfInBounds_toArray, List.set_cons_zero, List.set_cons_succ]
  refine wpAnyE_one (i := 12) rfl (by kernel_rfl) ?_
  intro K1 hK1
  go_simp
  refine hK1.out _ _ (.inr HS1.out) ?_
  clear hK1 K1
  try simp only [Act.put, List.setIfInBounds_toArray, List.set_cons_zero, List.set_cons_succ]
  refine wpAnyE_one (i := 13) rfl (by kernel_rfl) ?_
  intro K1 hK1
  go_simp
  refine hK1.out _ _ (.inl rfl) ?_
  clear hK1 K1
  try simp only [Act.put, List.setIfInBounds_toArray, List.set_cons_zero, List.set_cons_succ]
  refine wpAnyE_done (by kernel_rfl) ?_ _
  have x0' : (w1.setCell ⟨zb, zo + 1, none⟩ (.slice ra rk rc)).cell? ⟨xb, xo, none⟩ = some (.bool xn) := by
    rw [World.cell?_setCell_other _ _ _ _ (fun e => HNE.out e.symm)]
    exact HRv.out.2.2.2.1
  have z0' : (w1.setCell ⟨zb, zo + 1, none⟩ (.slice ra rk rc)).cell? ⟨zb, zo, none⟩ = some (.bool zn) := by
    rw [World.cell?_setCell_other _ _ _ _ (by simp)]
    exact HRv.out.2.2.1.1
  clear z1'
  go_wp2_with fail
  go_ret
  exact ⟨rfl, ra, rk, rc, w1, HRv.out.1, rfl⟩

end Go.Proofs.Qxb6002359a.B
