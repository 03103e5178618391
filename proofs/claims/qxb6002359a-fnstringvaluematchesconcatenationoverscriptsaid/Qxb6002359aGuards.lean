/- Slices of strings and of bytes in memory; the guards and the clones. -/
import Derived.Test.Qxb6002359aMakes
namespace Go.Proofs.Qxb6002359a.M
open Go.RowKit Go.ChangeShapes Go.WideShapes Go.ChangeAt
set_option linter.unusedVariables false
set_option linter.unusedSimpArgs false

theorem lt_of_cell {w : World} {a : Addr} {v : Value} (h : w.cell? a = some v) : a.block < w.heap.size := by
  rcases Nat.lt_or_ge a.block w.heap.size with h' | h'
  · exact h'
  · simp [World.cell?, Array.getElem?_eq_none h'] at h

/-- The slice at 'a' of n elements reads V 0 .. V (n - 1). -/
def Vals (w : World) (a : Option Addr) (n : Nat) (V : Nat → Value) : Prop :=
  0 < n → ∃ b o, a = some ⟨b, o, none⟩ ∧ ∀ i, i < n → w.cell? ⟨b, o + i, none⟩ = some (V i)
theorem Vals.below {w w' : World} {a : Option Addr} {n : Nat} {V : Nat → Value} (h : Vals w a n V) (hb : Below w.heap.size w w') : Vals w' a n V := by
  intro h0
  obtain ⟨b, o, ha, hc⟩ := h h0
  exact ⟨b, o, ha, fun i hi => (hb.cell (lt_of_cell (hc i hi))).trans (hc i hi)⟩
def Strs (w : World) (a : Option Addr) (n : Nat) (S : Nat → BA) : Prop := Vals w a n (fun i => .string (S i))
def Bytes (w : World) (a : Option Addr) (n : Nat) (Z : Nat → Int) : Prop := Vals w a n (fun i => .int .u8 (Z i))

def RetBool (w w' : World) (e : Ending) : Prop := ∃ b : Bool, e = .returned (.bool b) ∧ w' = w
def RetInt (w w' : World) (e : Ending) : Prop := ∃ z : Int, e = .returned (.int .i64 z) ∧ w' = w

set_option maxRecDepth 100000 in
theorem bytes11_any (w : World) (a a2 : Option Addr) (n c n2 c2 : Nat) (S : Nat → BA) (hs : Strs w a n S) :
    Calls Try.prog 11 #[.slice a n c, .slice a2 n2 c2] w (fun e w' => RetBool w w' e) := by
  have HS : Hid (Strs w a n S) := hs
  clear hs
  by_cases g1 : n ≤ 1048576
  rotate_left
  · have g1' : (n : Int) > 1048576 := by omega
    go_enter Try.func11, Try.ntmps11
    go_wp2_with fail
    go_ret
    exact ⟨_, rfl, rfl⟩
  have g1' : ¬ (n : Int) > 1048576 := by omega
  go_enter Try.func11, Try.ntmps11
  go_wp2_with fail
  go_loopw [5, 6] (fun tv i wr => ∃ k t : Nat, k ≤ n ∧ t ≤ 1048576 ∧ tv = .int .i64 t ∧ i = .int .i64 k ∧ wr = w) (fun _ i _ => n - (intOf i).toNat)
  case atStart => exact ⟨0, n, Nat.zero_le _, g1, rfl, rfl, rfl⟩
  case round =>
    obtain ⟨k, t, hk, htt, rfl, rfl, rfl⟩ := hrel
    by_cases hlt : k < n
    · obtain ⟨b, o, rfl, hc⟩ := HS.out (by omega)
      have c1 : wr.cell? ⟨b, o + k, none⟩ = some (.string (S k)) := hc k hlt
      have hkn : (k : Int) < n := by omega
      clear hc
      obtain ⟨s, hs⟩ : ∃ s, s = S k := ⟨_, rfl⟩
      rw [← hs] at c1
      clear hs
      by_cases h1 : s.size ≤ 1048576
      · have h1' : ¬ (s.size : Int) > 1048576 := by omega
        by_cases h2 : t + s.size ≤ 1048576
        · have h2' : ¬ (t : Int) + s.size > 1048576 := by omega
          go_wp2_with fail
          go_roundw
          case rel => exact ⟨k + 1, t + s.size, by omega, by omega, by go_num, by go_num, by simp⟩
          case measure => simp [intOf]; omega
        · have h2' : (t : Int) + s.size > 1048576 := by omega
          go_wp2_with fail
          go_ret
          exact ⟨_, rfl, rfl⟩
      · have h1' : (s.size : Int) > 1048576 := by omega
        go_wp2_with fail
        go_ret
        exact ⟨_, rfl, rfl⟩
    · have hkn : ¬ (k : Int) < n := by omega
      by_cases h1 : n2 ≤ 1048576
      · have h1' : ¬ (n2 : Int) > 1048576 := by omega
        by_cases h2 : t + n2 ≤ 1048576
        · have h2' : ¬ (t : Int) + n2 > 1048576 := by omega
          go_wp2_with fail
          go_ret
          exact ⟨_, rfl, rfl⟩
        · have h2' : (t : Int) + n2 > 1048576 := by omega
          go_wp2_with fail
          go_ret
          exact ⟨_, rfl, rfl⟩
      · have h1' : (n2 : Int) > 1048576 := by omega
        go_wp2_with fail
        go_ret
        exact ⟨_, rfl, rfl⟩

set_option maxRecDepth 100000 in
theorem strBytes_any (w : World) (a : Option Addr) (n c : Nat) (S : Nat → BA) (hn : n ≤ maxLen) (hs : Strs w a n S) :
    Calls Try.prog 12 #[.slice a n c] w (fun e w' => RetInt w w' e) := by
  have HS : Hid (Strs w a n S) := hs
  clear hs
  go_enter Try.func12, Try.ntmps12
  go_wp2_with fail
  go_loopw [3, 4] (fun tv i wr => ∃ (k : Nat) (z : Int), k ≤ n ∧ tv = .int .i64 z ∧ i = .int .i64 k ∧ wr = w) (fun _ i _ => n - (intOf i).toNat)
  case atStart => exact ⟨0, _, Nat.zero_le _, rfl, rfl, rfl⟩
  case round =>
    obtain ⟨k, z, hk, rfl, rfl, rfl⟩ := hrel
    by_cases hlt : k < n
    · obtain ⟨b, o, rfl, hc⟩ := HS.out (by omega)
      have c1 : wr.cell? ⟨b, o + k, none⟩ = some (.string (S k)) := hc k hlt
      have hkn : (k : Int) < n := by omega
      have hkm : n ≤ 9223372036854775807 := hn
      clear hc
      go_wp2_with fail
      go_roundw
      case rel => exact ⟨k + 1, _, by omega, rfl, by go_num, by simp⟩
      case measure => simp [intOf]; omega
    · have hkn : ¬ (k : Int) < n := by omega
      go_wp2_with fail
      go_ret
      exact ⟨_, rfl, rfl⟩

def fillV (V : Nat → Value) (z : Value) (k j : Nat) : Value := if j < k then V j else z
theorem fill_row {w : World} {g n k t : Nat} {V : Nat → Value} {z : Value} (h : w.rowIs g t n (fillV V z k)) : (w.setCell ⟨g, k, none⟩ (V k)).rowIs g t n (fillV V z (k + 1)) :=
  (h.set k _).congr fun j hj => by
    unfold fillV
    by_cases e : j = k
    · subst e; rw [if_pos rfl, if_pos (by omega)]
    · rw [if_neg e]
      by_cases e2 : j < k
      · rw [if_pos e2, if_pos (by omega)]
      · rw [if_neg e2, if_neg (by omega)]
theorem vals_of_row {w : World} {g n t : Nat} {V : Nat → Value} {z : Value} (h : w.rowIs g t n (fillV V z n)) : Vals w (some ⟨g, 0, none⟩) n V := fun h0 => ⟨g, 0, rfl, fun i hi => by rw [Nat.zero_add, h.cell hi]; unfold fillV; rw [if_pos hi]⟩

/-- a clone has come back -/
def RetVals (w w' : World) (e : Ending) (n : Nat) (V : Nat → Value) : Prop := ∃ a c, e = .returned (.slice a n c) ∧ Vals w' a n V ∧ Below w.heap.size w w'

theorem info9 : (Try.prog.info? 9).map (fun i => (i.zero, i.size, i.bytes)) = some (some (.string ByteArray.empty), 1, 16) := by kernel_rfl
theorem info5 : (Try.prog.info? 5).map (fun i => (i.zero, i.size, i.bytes)) = some (some (.int .u8 0), 1, 1) := by kernel_rfl

set_option maxRecDepth 100000 in
theorem cloneStrings_any (w : World) (a : Option Addr) (n c : Nat) (S : Nat → BA) (hn : n ≤ 1024) (hs : Strs w a n S) :
    Calls Try.prog 13 #[.slice a n c] w (fun e w' => RetVals w w' e n (fun i => .string (S i))) := by
  have HS : Hid (Strs w a n S) := hs
  clear hs
  cases a with
  | none =>
    have h0 : n = 0 := by
      rcases Nat.eq_zero_or_pos n with h | h
      · exact h
      · obtain ⟨b, o, e, _⟩ := HS.out h
        cases e
    subst h0
    have hnil : ∀ (w : World) (l c : Nat), (binOp .eql 29 (.slice none l c) (.slice none 0 0)).run Try.prog w = .ok (.bool true) w := fun w l c => Lib.run_eql_slice_nil w 29 9 none l c 0 0 Try.underlying29
    go_enter Try.func13, Try.ntmps13
    go_wp2_with fail
    go_ret
    exact ⟨none, 0, rfl, (fun h => by omega), Below.refl _ _⟩
  | some x =>
    have hnil : ∀ (w : World) (l c : Nat), (binOp .eql 29 (.slice (some x) l c) (.slice none 0 0)).run Try.prog w = .ok (.bool false) w := fun w l c => Lib.run_eql_slice_nil w 29 9 (some x) l c 0 0 Try.underlying29
    have hmk := run_make_row' (P := Try.prog) 29 9 (.string ByteArray.empty) 16 Try.underlying29 info9 rfl .i64 .i64 n (by omega) (by omega)
    go_enter Try.func13, Try.ntmps13
    go_wp2_with fail
    go_loopw [4] (fun i wr => ∃ k : Nat, k ≤ n ∧ i = .int .i64 k ∧ wr.rowIs w.heap.size 9 n (fillV (fun i => .string (S i)) (.string ByteArray.empty) k) ∧ Below w.heap.size w wr) (fun i _ => n - (intOf i).toNat)
    case atStart => exact ⟨0, Nat.zero_le _, rfl, (World.rowIs_made w (.string ByteArray.empty) n 9).congr fun j hj => by simp [fillV], (Below.refl _ _).alloc (Nat.le_refl _) _⟩
    case round =>
      obtain ⟨k, hk, rfl, hr, hb⟩ := hrel
      clear hmk hnil
      by_cases hlt : k < n
      · obtain ⟨b, o, e, hc⟩ := HS.out (by omega)
        cases e
        have c1 : wr.cell? ⟨b, o + k, none⟩ = some (.string (S k)) := (hb.cell (lt_of_cell (hc k hlt))).trans (hc k hlt)
        have hkn : (k : Int) < n := by omega
        have r1 := hr.cell hlt
        have f1 := hr.frozen k
        have HR : Hid ((wr.setCell ⟨w.heap.size, k, none⟩ (.string (S k))).rowIs w.heap.size 9 n (fillV (fun i => .string (S i)) (.string ByteArray.empty) (k + 1)) ∧ Below w.heap.size w (wr.setCell ⟨w.heap.size, k, none⟩ (.string (S k)))) := ⟨fill_row (V := fun i => .string (S i)) hr, hb.setCell (Nat.le_refl _) _⟩
        clear hc hr hb
        go_wp2_with fail
        go_roundw
        case rel => exact ⟨k + 1, by omega, by go_num, HR.out⟩
        case measure => simp [intOf]; omega
      · obtain rfl : k = n := by omega
        have HR : Hid (wr.rowIs w.heap.size 9 k (fillV (fun i => .string (S i)) (.string ByteArray.empty) k) ∧ Below w.heap.size w wr) := ⟨hr, hb⟩
        clear hr hb
        go_wp2_with fail
        go_ret
        exact ⟨_, _, rfl, vals_of_row HR.out.1, HR.out.2⟩

set_option maxRecDepth 100000 in
theorem cloneBytes_any (w : World) (a : Option Addr) (n c : Nat) (Z : Nat → Int) (hn : n ≤ 1024) (hs : Bytes w a n Z) :
    Calls Try.prog 14 #[.slice a n c] w (fun e w' => RetVals w w' e n (fun i => .int .u8 (Z i))) := by
  have HS : Hid (Bytes w a n Z) := hs
  clear hs
  cases a with
  | none =>
    have h0 : n = 0 := by
      rcases Nat.eq_zero_or_pos n with h | h
      · exact h
      · obtain ⟨b, o, e, _⟩ := HS.out h
        cases e
    subst h0
    have hnil : ∀ (w : World) (l c : Nat), (binOp .eql 30 (.slice none l c) (.slice none 0 0)).run Try.prog w = .ok (.bool true) w := fun w l c => Lib.run_eql_slice_nil w 30 5 none l c 0 0 Try.underlying30
    go_enter Try.func14, Try.ntmps14
    go_wp2_with fail
    go_ret
    exact ⟨none, 0, rfl, (fun h => by omega), Below.refl _ _⟩
  | some x =>
    have hnil : ∀ (w : World) (l c : Nat), (binOp .eql 30 (.slice (some x) l c) (.slice none 0 0)).run Try.prog w = .ok (.bool false) w := fun w l c => Lib.run_eql_slice_nil w 30 5 (some x) l c 0 0 Try.underlying30
    have hmk := run_make_row' (P := Try.prog) 30 5 (.int .u8 0) 1 Try.underlying30 info5 rfl .i64 .i64 n (by omega) (by omega)
    go_enter Try.func14, Try.ntmps14
    go_wp2_with fail
    go_loopw [4] (fun i wr => ∃ k : Nat, k ≤ n ∧ i = .int .i64 k ∧ wr.rowIs w.heap.size 5 n (fillV (fun i => .int .u8 (Z i)) (.int .u8 0) k) ∧ Below w.heap.size w wr) (fun i _ => n - (intOf i).toNat)
    case atStart => exact ⟨0, Nat.zero_le _, rfl, (World.rowIs_made w (.int .u8 0) n 5).congr fun j hj => by simp [fillV], (Below.refl _ _).alloc (Nat.le_refl _) _⟩
    case round =>
      obtain ⟨k, hk, rfl, hr, hb⟩ := hrel
      clear hmk hnil
      by_cases hlt : k < n
      · obtain ⟨b, o, e, hc⟩ := HS.out (by omega)
        cases e
        have c1 : wr.cell? ⟨b, o + k, none⟩ = some (.int .u8 (Z k)) := (hb.cell (lt_of_cell (hc k hlt))).trans (hc k hlt)
        have hkn : (k : Int) < n := by omega
        have r1 := hr.cell hlt
        have f1 := hr.frozen k
        have HR : Hid ((wr.setCell ⟨w.heap.size, k, none⟩ (.int .u8 (Z k))).rowIs w.heap.size 5 n (fillV (fun i => .int .u8 (Z i)) (.int .u8 0) (k + 1)) ∧ Below w.heap.size w (wr.setCell ⟨w.heap.size, k, none⟩ (.int .u8 (Z k)))) := ⟨fill_row (V := fun i => .int .u8 (Z i)) hr, hb.setCell (Nat.le_refl _) _⟩
        clear hc hr hb
        go_wp2_with fail
        go_roundw
        case rel => exact ⟨k + 1, by omega, by go_num, HR.out⟩
        case measure => simp [intOf]; omega
      · obtain rfl : k = n := by omega
        have HR : Hid (wr.rowIs w.heap.size 5 k (fillV (fun i => .int .u8 (Z i)) (.int .u8 0) k) ∧ Below w.heap.size w wr) := ⟨hr, hb⟩
        clear hr hb
        go_wp2_with fail
        go_ret
        exact ⟨_, _, rfl, vals_of_row HR.out.1, HR.out.2⟩

end Go.Proofs.Qxb6002359a.M
