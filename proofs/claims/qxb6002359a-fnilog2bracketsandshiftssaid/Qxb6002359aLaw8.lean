/- The law FnIlog2BracketsAndShifts: what its calls answer; its short ways out. -/
import Derived.Test.Qxb6002359aBigG
import Derived.Test.Qxb6002359aSid2
namespace Go.Proofs.Qxb6002359a.B
open Go.RowKit Go.ChangeShapes Go.WideShapes Go.ChangeAt
set_option linter.unusedVariables false
set_option linter.unusedSimpArgs false

theorem row_below {w w' : World} {b t n : Nat} {f : Nat → Value} (h : w.rowIs b t n f) (k : Below w.heap.size w w') : w'.rowIs b t n f := h.of_block (k.block b h.lt)
theorem row_cells {w : World} {B n : Nat} {Z : Nat → Nat} (h : w.rowIs B 5 n (rowB Z n)) (hz : ∀ i, i < n → Z i ≤ 255) : ∀ i, i < n → w.cell? ⟨B, i, none⟩ = some (.int .u8 (Z i : Nat)) ∧ Z i ≤ 255 := fun i hi => ⟨by rw [h.cell hi]; unfold rowB; rw [if_pos hi], hz i hi⟩
/-- the bytes, and one more that is 0 -/
def more (Z : Nat → Nat) (n j : Nat) : Nat := if j < n then Z j else 0
theorem bval_more (Z : Nat → Nat) (n : Nat) : bval (more Z n) (n + 1) = bval Z n * 256 := by
  show bval (more Z n) n * 256 + more Z n n = _
  rw [bval_congr (X := more Z n) (Y := Z) n (fun j hj => if_pos hj), show more Z n n = 0 from if_neg (by omega)]
  omega
theorem more_le {Z : Nat → Nat} {n : Nat} (hz : ∀ i, i < n → Z i ≤ 255) (i : Nat) : more Z n i ≤ 255 := by
  unfold more
  split
  · rename_i h; exact hz i h
  · omega
theorem row_more {w : World} {B n : Nat} {Z : Nat → Nat} (h : w.rowIs B 5 (n + 1) (rowB Z n)) (hz : ∀ i, i < n → Z i ≤ 255) : ∀ i, i < n + 1 → w.cell? ⟨B, i, none⟩ = some (.int .u8 (more Z n i : Nat)) ∧ more Z n i ≤ 255 := fun i hi => ⟨by
  rw [h.cell hi]
  unfold rowB more
  by_cases e : i < n
  · rw [if_pos e, if_pos e]
  · rw [if_neg e, if_neg e]; rfl, more_le hz i⟩
theorem lg_bound {Z : Nat → Nat} {n : Nat} (hn : n ≤ 4096) (hz : ∀ i, i < n → Z i ≤ 255) (h0 : bval Z n ≠ 0) : 0 ≤ lg (bval Z n) ∧ lg (bval Z n) ≤ 40000 ∧ -40001 ≤ lgInv (bval Z n) ∧ lgInv (bval Z n) ≤ 0 := by
  have h1 := bval_small (Z := Z) (i0 := 0) (fun i hi => by omega) n (fun i hi => hz i (by omega))
  rw [Nat.zero_add, show (256 : Nat) = 2 ^ 8 by decide, ← Nat.pow_mul] at h1
  have h2 : Nat.log2 (bval Z n) < 8 * n := (Nat.log2_lt h0).2 h1
  unfold lg lgInv
  split <;> omega

/-- ZZIlog2 at the bytes -/
theorem askA {B n : Nat} {Z : Nat → Nat} (h1 : 1 ≤ n) (hn : n ≤ 4096) (hz : ∀ i, i < n → Z i ≤ 255) (h0 : bval Z n ≠ 0) (w : World) (h : w.rowIs B 5 n (rowB Z n)) (ng : Bool) :
    Calls Try.prog 21 #[.slice (some ⟨B, 0, none⟩) n n, .bool ng, .bool false] w (fun e w' => e = .returned (.int .i64 (lg (bval Z n))) ∧ Below w.heap.size w w') :=
  zzIlog2 w B n n ng false Z h1 (by omega) (Nat.le_refl _) (row_cells h hz) h0
theorem askC {B n : Nat} {Z : Nat → Nat} (h1 : 1 ≤ n) (hn : n ≤ 4096) (hz : ∀ i, i < n → Z i ≤ 255) (h0 : bval Z n ≠ 0) (w : World) (h : w.rowIs B 5 n (rowB Z n)) (ng : Bool) :
    Calls Try.prog 21 #[.slice (some ⟨B, 0, none⟩) n n, .bool ng, .bool true] w (fun e w' => e = .returned (.int .i64 (lgInv (bval Z n))) ∧ Below w.heap.size w w') :=
  zzIlog2 w B n n ng true Z h1 (by omega) (Nat.le_refl _) (row_cells h hz) h0
theorem askA2 {B n : Nat} {Z : Nat → Nat} (h1 : 1 ≤ n) (hn : n ≤ 4096) (hz : ∀ i, i < n → Z i ≤ 255) (h0 : bval Z n ≠ 0) (w : World) (h : w.rowIs B 5 (n + 1) (rowB Z n)) (ng : Bool) :
    Calls Try.prog 21 #[.slice (some ⟨B, 0, none⟩) (n + 1) (n + 1), .bool ng, .bool false] w (fun e w' => e = .returned (.int .i64 (lg (bval Z n) + 8)) ∧ Below w.heap.size w w') := by
  have := zzIlog2 w B (n + 1) (n + 1) ng false (more Z n) (by omega) (by omega) (Nat.le_refl _) (row_more h hz) (by rw [bval_more]; omega)
  rw [bval_more] at this
  rw [← lg_256 h0]
  exact this
theorem askC2 {B n : Nat} {Z : Nat → Nat} (h1 : 1 ≤ n) (hn : n ≤ 4096) (hz : ∀ i, i < n → Z i ≤ 255) (h0 : bval Z n ≠ 0) (w : World) (h : w.rowIs B 5 (n + 1) (rowB Z n)) (ng : Bool) :
    Calls Try.prog 21 #[.slice (some ⟨B, 0, none⟩) (n + 1) (n + 1), .bool ng, .bool true] w (fun e w' => e = .returned (.int .i64 (lgInv (bval Z n) - 8)) ∧ Below w.heap.size w w') := by
  have := zzIlog2 w B (n + 1) (n + 1) ng true (more Z n) (by omega) (by omega) (Nat.le_refl _) (row_more h hz) (by rw [bval_more]; omega)
  rw [bval_more] at this
  rw [← lgInv_256 h0]
  exact this

set_option maxRecDepth 100000 in
theorem zzIsZero_nil (w : World) : Calls Try.prog 19 #[.slice none 0 0] w (fun e w' => e = .returned (.bool true) ∧ w' = w) := by
  go_enter Try.func19, Try.ntmps19
  go_wp2_with fail
  go_loopw [3] (fun i wr => i = .int .i64 0 ∧ wr = w) (fun i _ => 0)
  case atStart => exact ⟨rfl, rfl⟩
  case round =>
    obtain ⟨rfl, hw⟩ := hrel
    subst hw
    go_wp2_with fail
    go_ret
    exact ⟨rfl, rfl⟩

set_option maxRecDepth 100000 in
theorem law_nil (w : World) (b : Bool) : Calls Try.prog 6 #[.slice none 0 0, .bool b] w (fun e w' => e = .returned (.bool true) ∧ Below w.heap.size w w') := by
  have HC := hid (zzBytes_any w none 0 0 b (by omega))
  rw [show decide (0 ≤ 1048576) = true by decide] at HC
  have HD := hid (zzIsZero_nil w)
  go_enter Try.func6, Try.ntmps6
  go_wp2_with (first | (go_at_call 18; refine HC.out.mono ?_; clear HC; rintro e w1 ⟨rfl, rfl⟩) | (go_at_call 19; refine HD.out.mono ?_; clear HD; rintro e w1 ⟨rfl, rfl⟩))
  go_ret
  exact ⟨rfl, Below.refl _ _⟩
set_option maxRecDepth 100000 in
theorem law_huge (w : World) (a : Option Addr) (n c : Nat) (b : Bool) (hn : n ≤ 9223372036854775807) (h : ¬ n ≤ 1048576) : Calls Try.prog 6 #[.slice a n c, .bool b] w (fun e w' => e = .returned (.bool true) ∧ Below w.heap.size w w') := by
  have HC := hid (zzBytes_any w a n c b hn)
  rw [show decide (n ≤ 1048576) = false by simpa using h] at HC
  go_enter Try.func6, Try.ntmps6
  go_wp2_with (go_at_call 18; refine HC.out.mono ?_; clear HC; rintro e w1 ⟨rfl, rfl⟩)
  go_ret
  exact ⟨rfl, Below.refl _ _⟩
set_option maxRecDepth 100000 in
theorem law_big (w : World) (a : Option Addr) (n c : Nat) (b : Bool) (hn : n ≤ 1048576) (h : ¬ n ≤ 4096) : Calls Try.prog 6 #[.slice a n c, .bool b] w (fun e w' => e = .returned (.bool true) ∧ Below w.heap.size w w') := by
  have HC := hid (zzBytes_any w a n c b (by omega))
  rw [show decide (n ≤ 1048576) = true by simpa using hn] at HC
  have h2 : (4096 : Int) < n := by omega
  go_enter Try.func6, Try.ntmps6
  go_wp2_with (go_at_call 18; refine HC.out.mono ?_; clear HC; rintro e w1 ⟨rfl, rfl⟩)
  go_ret
  exact ⟨rfl, Below.refl _ _⟩
set_option maxRecDepth 100000 in
theorem law_zero (w : World) (x : Addr) (n c : Nat) (b : Bool) (hn : n ≤ 4096) (Z : Nat → Nat) (hz : Bts w x n Z) (h0 : ∀ i, i < n → Z i = 0) : Calls Try.prog 6 #[.slice (some x) n c, .bool b] w (fun e w' => e = .returned (.bool true) ∧ Below w.heap.size w w') := by
  have HC := hid (zzBytes_any w (some x) n c b (by omega))
  rw [show decide (n ≤ 1048576) = true by simp; omega] at HC
  have HD : Hid (Calls Try.prog 19 #[.slice (some x) n c] w (fun e w' => e = .returned (.bool true) ∧ w' = w)) := (zzIsZero_any w x n c Z hn hz).mono (by
    rintro e w' ⟨⟨rfl, _⟩ | ⟨rfl, i, hi, hi0⟩, rfl⟩
    · exact ⟨rfl, rfl⟩
    · exact absurd (h0 i hi) hi0)
  clear hz h0
  have h2 : ¬ (4096 : Int) < n := by omega
  go_enter Try.func6, Try.ntmps6
  go_wp2_with (first | (go_at_call 18; refine HC.out.mono ?_; clear HC; rintro e w1 ⟨rfl, rfl⟩) | (go_at_call 19; refine HD.out.mono ?_; clear HD; rintro e w1 ⟨rfl, rfl⟩))
  go_ret
  exact ⟨rfl, Below.refl _ _⟩
end Go.Proofs.Qxb6002359a.B
