/- The law's own helpers: the bound, zzIsZero, the copy, zzFloorLog2, zzCeilLog2. -/
import Derived.Test.Qxb6002359aBig1
import Derived.Test.Qxb6002359aBval
namespace Go.Proofs.Qxb6002359a.B
open Go.RowKit Go.ChangeShapes Go.WideShapes Go.ChangeAt
set_option linter.unusedVariables false
set_option linter.unusedSimpArgs false

set_option maxRecDepth 100000 in
theorem zzBytes_any (w : World) (a : Option Addr) (n c : Nat) (b : Bool) (hn : n ≤ 9223372036854775807) :
    Calls Try.prog 18 #[.slice a n c, .bool b] w (fun e w' => e = .returned (.bool (decide (n ≤ 1048576))) ∧ w' = w) := by
  by_cases h : n ≤ 1048576
  · have h2 : ¬ (1048576 : Int) < n := by omega
    have hd : decide (n ≤ 1048576) = true := by simpa using h
    rw [hd]
    clear hd
    go_enter Try.func18, Try.ntmps18
    go_wp2_with fail
    go_ret
    exact ⟨rfl, rfl⟩
  · have h2 : (1048576 : Int) < n := by omega
    have hd : decide (n ≤ 1048576) = false := by simpa using h
    rw [hd]
    clear hd
    go_enter Try.func18, Try.ntmps18
    go_wp2_with fail
    go_ret
    exact ⟨rfl, rfl⟩

/-- n bytes from an address on -/
def Bts (w : World) (x : Addr) (n : Nat) (Z : Nat → Nat) : Prop := ∀ i, i < n → w.cell? (x.add i) = some (.int .u8 (Z i : Nat)) ∧ Z i ≤ 255

set_option maxRecDepth 100000 in
theorem zzIsZero_any (w : World) (x : Addr) (n c : Nat) (Z : Nat → Nat) (hn : n ≤ 4096) (hz : Bts w x n Z) :
    Calls Try.prog 19 #[.slice (some x) n c] w (fun e w' => ((e = .returned (.bool true) ∧ ∀ i, i < n → Z i = 0) ∨ (e = .returned (.bool false) ∧ ∃ i, i < n ∧ Z i ≠ 0)) ∧ w' = w) := by
  have HZ := hid hz
  clear hz
  go_enter Try.func19, Try.ntmps19
  go_wp2_with fail
  go_loopw [3] (fun i wr => ∃ (k : Nat), k ≤ n ∧ i = .int .i64 k ∧ wr = w ∧ Hid (∀ j, j < k → Z j = 0)) (fun i _ => n - (intOf i).toNat)
  case atStart => exact ⟨0, by omega, rfl, rfl, fun j hj => by omega⟩
  case round =>
    obtain ⟨k, hk, rfl, hw, HE⟩ := hrel
    subst hw
    by_cases hkn : k = n
    · subst hkn
      have h1 : ¬ (k : Int) < k := by omega
      go_wp2_with fail
      go_ret
      exact ⟨.inl ⟨rfl, HE.out⟩, rfl⟩
    · have h1 : (k : Int) < n := by omega
      have c1 := (HZ.out k (by omega)).1
      have c2 := (HZ.out k (by omega)).2
      by_cases h0 : Z k = 0
      · have h2 : ((Z k : Int) == 0) = true := by rw [h0]; rfl
        go_wp2_with fail
        refine ⟨⟨k + 1, by omega, by simp, by simp, fun j hj => ?_⟩, by simp only [intOf]; omega⟩
        rcases Nat.lt_or_ge j k with h | h
        · exact HE.out j h
        · obtain rfl : j = k := by omega
          exact h0
      · have h2 : ((Z k : Int) == 0) = false := by rw [beq_eq_false_iff_ne]; omega
        go_wp2_with fail
        go_ret
        exact ⟨.inr ⟨rfl, k, by omega, h0⟩, rfl⟩

theorem info5 : (Try.prog.info? 5).map (fun i => (i.zero, i.size, i.bytes)) = some (some (.int .u8 0), 1, 1) := by kernel_rfl
/-- k bytes are copied -/
def rowB (Z : Nat → Nat) (k j : Nat) : Value := if j < k then .int .u8 (Z j : Nat) else .int .u8 0
theorem rowB_set {w : World} {g c k : Nat} {Z : Nat → Nat} (h : w.rowIs g 5 c (rowB Z k)) : (w.setCell ⟨g, k, none⟩ (.int .u8 (Z k : Nat))).rowIs g 5 c (rowB Z (k + 1)) :=
  (h.set k _).congr (fun j hj => by
    unfold rowB
    by_cases h1 : j = k
    · subst h1; rw [if_pos rfl, if_pos (by omega)]
    · rw [if_neg h1]
      by_cases h2 : j < k
      · rw [if_pos h2, if_pos (by omega)]
      · rw [if_neg h2, if_neg (by omega)])

set_option maxRecDepth 100000 in
theorem clone_any (w : World) (x : Addr) (n c : Nat) (Z : Nat → Nat) (hn : n ≤ 4096) (hz : Bts w x n Z) :
    Calls Try.prog 20 #[.slice (some x) n c] w (fun e w' => e = .returned (.slice (some ⟨w.heap.size, 0, none⟩) n n) ∧ w'.rowIs w.heap.size 5 n (rowB Z n) ∧ Below w.heap.size w w') := by
  have HZ := hid hz
  clear hz
  have hmk : ∀ w : World, (Instr.makeSlice 30 (.int .i64 (n : Int)) (.int .i64 (n : Int))).run Try.prog w = .ok (.slice (some ⟨w.heap.size, 0, none⟩) n n) (w.alloc (.cells (madeCells #[.int .u8 0] n) 5)) := run_make_row' (P := Try.prog) 30 5 (.int .u8 0) 1 Try.underlying30 info5 rfl .i64 .i64 n (by omega) (by omega)
  have hnil : ∀ (w : World) (l c : Nat), (binOp .eql 30 (.slice (some x) l c) (.slice none 0 0)).run Try.prog w = .ok (.bool false) w := fun w l c => Lib.run_eql_slice_nil w 30 5 (some x) l c 0 0 Try.underlying30
  go_enter Try.func20, Try.ntmps20
  go_wp2_with fail
  go_loopw [4] (fun i wr => ∃ (k : Nat), k ≤ n ∧ i = .int .i64 k ∧ wr.rowIs w.heap.size 5 n (rowB Z k) ∧ Below w.heap.size w wr) (fun i _ => n - (intOf i).toNat)
  case atStart => exact ⟨0, by omega, rfl, World.rowIs_made w (.int .u8 0) n 5, (Below.refl _ _).alloc (Nat.le_refl _) _⟩
  case round =>
    obtain ⟨k, hk, rfl, hrow, hbel⟩ := hrel
    have HR := hid (And.intro hrow hbel)
    by_cases hkn : k = n
    · have h1 : ¬ (k : Int) < n := by omega
      clear hrow hbel
      go_wp2_with fail
      go_ret
      subst hkn
      exact ⟨rfl, HR.out⟩
    · have h1 : (k : Int) < n := by omega
      have c0 := (HZ.out k (by omega)).1
      have c1 := (hbel.cell (lt_of_cell c0)).trans c0
      have c2 := hrow.cell (i := k) (by omega)
      have f1 := hrow.frozen k
      clear hrow hbel c0 hmk hnil
      go_wp2_with fail
      refine ⟨⟨k + 1, by omega, by simp, rowB_set HR.out.1, HR.out.2.setCell (Nat.le_refl _) _⟩, by simp only [intOf]; omega⟩

set_option maxRecDepth 100000 in
theorem floor_any (w : World) (X : Nat) (h0 : 1 ≤ X) (hX : X < 18446744073709551616) :
    Calls Try.prog 24 #[.int .u64 (X : Nat)] w (fun e w' => e = .returned (.int .i64 (lg X)) ∧ w' = w) := by
  have HL : Hid (Nat.log2 X < 64) := (Nat.log2_lt (by omega)).2 hX
  go_enter Try.func24, Try.ntmps24
  go_wp2_with fail
  go_loopw [0, 3] (fun v i wr => ∃ (m k : Nat), 1 ≤ m ∧ m ≤ X ∧ v = .int .u64 m ∧ i = .int .i64 k ∧ wr = w ∧ k < 64 ∧ Hid (Nat.log2 m + k = Nat.log2 X)) (fun v i _ => (intOf v).toNat)
  case atStart => exact ⟨X, 0, h0, Nat.le_refl _, rfl, rfl, rfl, by omega, rfl⟩
  case round =>
    obtain ⟨m, k, hm, hmX, rfl, rfl, hw, hk, HE⟩ := hrel
    subst hw
    by_cases hm1 : m = 1
    · subst hm1
      go_wp2_with fail
      go_ret
      have h := HE.out
      rw [show Nat.log2 1 = 0 by decide] at h
      exact ⟨by unfold lg; rw [← h, Nat.zero_add]; rfl, rfl⟩
    · have h1 : (1 : Int) < m := by omega
      have hl : Nat.log2 m = Nat.log2 (m / 2) + 1 := by rw [Nat.log2_def m, if_pos (by omega)]
      have HH : Hid (Nat.log2 (m / 2) + (k + 1) = Nat.log2 X) := by have := HE.out; show _ = _; omega
      have hk2 : k + 1 < 64 := by have := HH.out; have := HL.out; omega
      clear hl
      go_wp2_with fail
      refine ⟨⟨m / 2, k + 1, by omega, by omega, by simp, by simp, by simp, hk2, HH⟩, by simp only [intOf]; omega⟩

end Go.Proofs.Qxb6002359a.B
