/- math/big: Int.Cmp of two that are not negative. -/
import Derived.Test.Qxb6002359aBigC
namespace Go.Proofs.Qxb6002359a.B
open Go.RowKit Go.ChangeShapes Go.WideShapes Go.ChangeAt
set_option linter.unusedVariables false
set_option linter.unusedSimpArgs false

theorem eql61_apart {w : World} {xb xo yb yo : Nat} (hne : xb ≠ yb) (hx : Plain w xb) (hy : Plain w yb) : (binOp .eql 61 (.pointer (some ⟨xb, xo, none⟩)) (.pointer (some ⟨yb, yo, none⟩))).run Try.prog w = .ok (.bool false) w := by
  obtain ⟨c, t, h⟩ := hx
  obtain ⟨c', t', h'⟩ := hy
  exact eql61_other (a := ⟨xb, xo, none⟩) (b := ⟨yb, yo, none⟩) (fun e => hne (by cases e; rfl)) h h'

set_option maxRecDepth 100000 in
theorem intCmp (w : World) (xb xo yb yo gx gy n cx cy : Nat) (X Y : Nat → Nat) (h1 : 1 ≤ n) (hn : n ≤ 65536) (hne : xb ≠ yb) (px : Plain w xb) (py : Plain w yb) (ix : IntAt w xb xo false (some ⟨gx, 0, none⟩) n cx) (iy : IntAt w yb yo false (some ⟨gy, 0, none⟩) n cy) (hX : ∀ j, j < n → X j < 18446744073709551616) (hY : ∀ j, j < n → Y j < 18446744073709551616) (hx : Wds w (some ⟨gx, 0, none⟩) n X) (hy : Wds w (some ⟨gy, 0, none⟩) n Y) :
    Calls Try.prog 55 #[.pointer (some ⟨xb, xo, none⟩), .pointer (some ⟨yb, yo, none⟩)] w (fun e w' => e = .returned (.int .i64 (cmpZ n X Y)) ∧ ∃ q, w' = w.drewN q) := by
  have HC : Hid (∀ w2 : World, (∃ q, w2 = w.drewN q) → ∀ q, Calls Try.prog 64 #[.slice (some ⟨gx, 0, none⟩) n cx, .slice (some ⟨gy, 0, none⟩) n cy] (w2.drewN q) (fun e w' => e = .returned (.int .i64 (cmpZ n X Y)) ∧ ∃ q', w' = (w2.drewN q).drewN q')) := by
    rintro w2 ⟨q, rfl⟩ q'
    exact cmp_any ((w.drewN q).drewN q') gx gy n cx cy X Y h1 hn hX hY hx hy
  have hq := eql61_apart (xo := xo) (yo := yo) hne px py
  have x0 := ix.1
  have x1 := ix.2
  have y0 := iy.1
  have y1 := iy.2
  clear hX hY hx hy px py ix iy
  go_enter Try.func55, Try.ntmps55
  go_wp2_with fail
  go_quiet (fail)
  go_wp2_with fail
  obtain ⟨w2, hw2⟩ : ∃ w2, w2 = w.drewN nq := ⟨_, rfl⟩
  rw [← hw2]
  replace x0 : w2.cell? ⟨xb, xo, none⟩ = some (.bool false) := by rw [hw2]; exact x0
  replace x1 : w2.cell? ⟨xb, xo + 1, none⟩ = some (.slice (some ⟨gx, 0, none⟩) n cx) := by rw [hw2]; exact x1
  replace y0 : w2.cell? ⟨yb, yo, none⟩ = some (.bool false) := by rw [hw2]; exact y0
  replace y1 : w2.cell? ⟨yb, yo + 1, none⟩ = some (.slice (some ⟨gy, 0, none⟩) n cy) := by rw [hw2]; exact y1
  have HW : Hid (∃ q, w2 = w.drewN q) := ⟨_, hw2⟩
  have HC2 := hid (HC.out w2 HW.out)
  clear hw2 HC hq
  go_quiet ((go_at_call 64; refine Calls.quiet_of (HC2.out _)))
  go_wp2_with fail
  go_ret
  exact ⟨rfl, drewN_out HW.out _⟩
end Go.Proofs.Qxb6002359a.B
