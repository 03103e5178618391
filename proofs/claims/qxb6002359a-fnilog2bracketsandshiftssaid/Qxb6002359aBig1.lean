/- math/big's nat: make, setWord, norm, set. -/
import Derived.Test.Qxb6002359aRows
import Derived.WalkKit
import Derived.ProofKit
import Derived.WalkSpells
import Derived.Below
import Derived.Deep.OwnRows
import Derived.Deep.QuietTactic
import Derived.BigQuiet
import Derived.Deep.RegionHeld3
import Derived.Deep.DeepCutAuto
import Derived.LaidEqlPtr
import Derived.Laws.IdiomCopy
namespace Go.Proofs.Qxb6002359a.B
open Go.RowKit Go.ChangeShapes Go.WideShapes Go.ChangeAt
set_option linter.unusedVariables false
set_option linter.unusedSimpArgs false

theorem hid {p : Prop} (h : p) : Hid p := h
theorem lt_of_cell {w : World} {a : Addr} {v : Value} (h : w.cell? a = some v) : a.block < w.heap.size := by
  rcases Nat.lt_or_ge a.block w.heap.size with h' | h'
  · exact h'
  · simp [World.cell?, Array.getElem?_eq_none h'] at h
theorem below_then {w0 w w1 : World} (h : Below w0.heap.size w0 w) (k : Below w.heap.size w w1) : Below w0.heap.size w0 w1 :=
  ⟨k.os.trans h.os, k.tape.trans h.tape, k.output.trans h.output, Nat.le_trans h.size k.size, fun i hi => (k.block i (Nat.lt_of_lt_of_le hi h.size)).trans (h.block i hi)⟩

theorem info87 : (Try.prog.info? 87).map (fun i => (i.zero, i.size, i.bytes)) = some (some (.int .u64 0), 1, 8) := by kernel_rfl

/-- n words W 0 .. W (n - 1), the first at the block's beginning -/
def Wds (w : World) (a : Option Addr) (n : Nat) (W : Nat → Nat) : Prop :=
  0 < n → ∃ b, a = some ⟨b, 0, none⟩ ∧ ∀ i, i < n → w.cell? ⟨b, i, none⟩ = some (.int .u64 (W i : Nat))
theorem Wds.below {w w' : World} {a : Option Addr} {n : Nat} {W : Nat → Nat} (h : Wds w a n W) (hb : Below w.heap.size w w') : Wds w' a n W := by
  intro h0
  obtain ⟨b, ha, hc⟩ := h h0
  exact ⟨b, ha, fun i hi => (hb.cell (lt_of_cell (hc i hi))).trans (hc i hi)⟩
theorem Wds.grown {w w' : World} {a : Option Addr} {n zb : Nat} {W : Nat → Nat} (h : Wds w a n W) (hb : w.grownBy w' (some zb)) (hne : ∀ b, a = some ⟨b, 0, none⟩ → b ≠ zb) : Wds w' a n W := by
  intro h0
  obtain ⟨b, ha, hc⟩ := h h0
  exact ⟨b, ha, fun i hi => (World.cell?_of_block (hb.block b (lt_of_cell (hc i hi)) (fun e => hne b ha (by cases e; rfl)))).trans (hc i hi)⟩

def CapOk (n c : Nat) : Prop := c ≤ n + 4 ∧ (n = 1 → c = 1)
/-- a new row of words has come back: c cells, all 0; n of them are its length -/
def RetMade (w w' : World) (e : Ending) (n : Nat) : Prop := ∃ c, e = .returned (.slice (some ⟨w.heap.size, 0, none⟩) n c) ∧ n ≤ c ∧ CapOk n c ∧ w'.rowIs w.heap.size 87 c (fun _ => .int .u64 0) ∧ Below w.heap.size w w'

set_option maxRecDepth 100000 in
/-- nat.make where the receiver is too small -/
theorem make_new (w : World) (a : Option Addr) (l c0 n : Nat) (hn : n ≤ 65536) (hc : c0 < n) :
    Calls Try.prog 58 #[.slice a l c0, .int .i64 n] w (fun e w' => RetMade w w' e n) := by
  obtain ⟨i, hi, hz0, hz1, hz2⟩ := info_parts info87
  have hcn : ¬ (n : Int) ≤ c0 := by omega
  by_cases h1 : n = 1
  · subst h1
    have hmk : ∀ w : World, (Instr.makeSlice 63 (.int .i64 1) (.int .i64 1)).run Try.prog w = .ok (.slice (some ⟨w.heap.size, 0, none⟩) 1 1) (w.alloc (.cells (madeCells #[.int .u64 0] 1) 87)) := run_make_row' (P := Try.prog) 63 87 (.int .u64 0) 8 Try.underlying63 info87 rfl .i64 .i64 1 (by omega) (by omega)
    have hc0 : c0 = 0 := by omega
    subst hc0
    clear hcn
    go_enter Try.func58, Try.ntmps58
    go_wp2_with fail
    go_ret
    exact ⟨1, rfl, Nat.le_refl _, ⟨by omega, fun _ => rfl⟩, World.rowIs_made w (.int .u64 0) 1 87, (Below.refl _ _).alloc (Nat.le_refl _) _⟩
  · have h1' : ((n : Int) == 1) = false := by rw [beq_eq_false_iff_ne]; omega
    have hmk : ∀ w : World, (Instr.makeSlice 63 (.int .i64 (n : Int)) (.int .i64 ((n : Int) + 4))).run Try.prog w = .ok (.slice (some ⟨w.heap.size, 0, none⟩) n (n + 4)) (w.alloc (.cells (madeCells #[.int .u64 0] (n + 4)) 87)) := fun w => by
      have hr := run_make (P := Try.prog) w 63 87 i (.int .u64 0) Try.underlying63 hi hz0 .i64 .i64 n ((n : Int) + 4) (by omega) (by omega) (by rw [hz2]; omega) (by omega)
      have e : ((n : Int) + 4).toNat = n + 4 := by omega
      simp only [Int.toNat_natCast, hz1, Nat.mul_one, e] at hr
      exact hr
    go_enter Try.func58, Try.ntmps58
    go_wp2_with fail
    go_ret
    exact ⟨n + 4, rfl, by omega, ⟨Nat.le_refl _, fun h => absurd h h1⟩, World.rowIs_made w (.int .u64 0) (n + 4) 87, (Below.refl _ _).alloc (Nat.le_refl _) _⟩

set_option maxRecDepth 100000 in
/-- nat.setWord of 1 on nil -/
theorem setWord_one (w : World) : Calls Try.prog 48 #[.slice none 0 0, .int .u64 1] w (fun e w' => ∃ c, e = .returned (.slice (some ⟨w.heap.size, 0, none⟩) 1 c) ∧ 1 ≤ c ∧ c ≤ 5 ∧ Wds w' (some ⟨w.heap.size, 0, none⟩) 1 (fun _ => 1) ∧ Below w.heap.size w w') := by
  have HC : Hid (Calls Try.prog 58 #[.slice none 0 0, .int .i64 1] w (fun e w' => RetMade w w' e 1)) := make_new w none 0 0 1 (by omega) (by omega)
  go_enter Try.func48, Try.ntmps48
  go_wp2_with (go_at_call 58; refine HC.out.mono ?_; clear HC; rintro e w1 ⟨c, rfl, h1, h2, hr, hb⟩; have c0 := hr.cell (i := 0) (by omega); have f0 := hr.frozen 0; have hb2 : Below w.heap.size w (w1.setCell ⟨w.heap.size, 0, none⟩ (.int .u64 1)) := hb.setCell (Nat.le_refl _) _; have HR := hid (And.intro (hr.set 0 (.int .u64 1)) hb2); clear hr hb hb2)
  go_ret
  refine ⟨c, rfl, h1, h2.1, fun _ => ⟨_, rfl, fun i hi => ?_⟩, HR.out.2⟩
  obtain rfl : i = 0 := by omega
  rw [HR.out.1.cell (by omega)]
  rfl

end Go.Proofs.Qxb6002359a.B
