/- The walk of zzPack: two slices of numbers into one of pairs. -/
import Derived.Test.Qxb6602268aReads
import Derived.RegionTactic
import Derived.BigRegion
namespace Go.Proofs.Qxb6602268a.M
open Go.ChangeShapes Go.WideShapes Go.ChangeAt Go.RowKit
set_option linter.unusedVariables false

theorem info91 : (Try.prog.info? 91).map (fun i => (i.zero, i.size, i.bytes)) = some (some (.agg #[.int .i32 0, .int .i32 0]), 2, 8) := by kernel_rfl

theorem run_make_pairs (n : Nat) (hn : n ≤ 131072) (w : World) :
    (Instr.makeSlice 72 (.int .i64 (n : Int)) (.int .i64 (n : Int))).run Try.prog w = .ok (.slice (some ⟨w.heap.size, 0, none⟩) n n) (w.alloc (.cells (madeCells #[.int .i32 0, .int .i32 0] (n * 2)) 91)) := by
  obtain ⟨i, hi, hz, hs, hb⟩ := info_parts info91
  have := run_make (P := Try.prog) w 72 91 i _ Try.underlying72 hi hz .i64 .i64 (n : Int) (n : Int) (by omega) (by omega) (by rw [hb]; omega) (by omega)
  rw [hs] at this
  exact this

theorem rowIs_pairs (w : World) (n : Nat) : (w.alloc (.cells (madeCells #[.int .i32 0, .int .i32 0] (n * 2)) 91)).rowIs w.heap.size 91 (n * 2) (fun _ => .int .i32 0) := by
  refine ⟨_, Deep.blk_alloc_new _ _, size_madeCells _ _, fun i hi => ?_⟩
  have h : i % 2 = 0 ∨ i % 2 = 1 := by omega
  rcases h with h | h <;> simp [madeCells, hi, h]

/-- Pair i lies in cells 2i, 2i + 1. -/
def pairF (K V : Nat → Int) (j : Nat) : Value := if j % 2 = 0 then .int .i32 (K (j / 2)) else .int .i32 (V (j / 2))

theorem pairF_key (K V : Nat → Int) (i : Nat) : pairF K V (i * 2) = .int .i32 (K i) := by
  unfold pairF; rw [if_pos (by omega), show i * 2 / 2 = i from by omega]
theorem pairF_val (K V : Nat → Int) (i : Nat) : pairF K V (i * 2 + 1) = .int .i32 (V i) := by
  unfold pairF; rw [if_neg (by omega), show (i * 2 + 1) / 2 = i from by omega]

theorem pair_step {wr : World} {g n k : Nat} {f : Nat → Value} {K V : Nat → Int} (h : wr.rowIs g 91 (n * 2) f) (hf : ∀ j, j < k * 2 → f j = pairF K V j) :
    ∃ f', ((wr.setCell ⟨g, k * 2, none⟩ (.int .i32 (K k))).setCell ⟨g, k * 2 + 1, none⟩ (.int .i32 (V k))).rowIs g 91 (n * 2) f' ∧ ∀ j, j < (k + 1) * 2 → f' j = pairF K V j := by
  refine ⟨_, (h.set _ _).set _ _, fun j hj => ?_⟩
  by_cases e1 : j = k * 2 + 1
  · subst e1; rw [if_pos rfl, pairF_val]
  · rw [if_neg e1]
    by_cases e2 : j = k * 2
    · subst e2; rw [if_pos rfl, pairF_key]
    · rw [if_neg e2]; exact hf j (by omega)

set_option maxHeartbeats 1000000 in
theorem pack_any (a1 a2 : Option Addr) (n c1 c2 : Nat) (K V : Nat → Int) (w : World) (i1 : Ints w a1 n K) (i2 : Ints w a2 n V) (hn : n ≤ 131072) :
    Calls Try.prog 36 #[.slice a1 n c1, .slice a2 n c2] w fun e w' => e = .returned (.slice (some ⟨w.heap.size, 0, none⟩) n n) ∧
      w'.rowIs w.heap.size 91 (n * 2) (pairF K V) ∧ Below w.heap.size w w' := by
  have hmk := run_make_pairs n hn
  go_enter Try.func36, Try.ntmps36
  go_wp2
  clear hmk
  go_loopw [6] (fun i wr => ∃ (k : Nat) (f : Nat → Value), k ≤ n ∧ i = .int .i64 k ∧ wr.rowIs w.heap.size 91 (n * 2) f ∧ Below w.heap.size w wr ∧ Hid (∀ j, j < k * 2 → f j = pairF K V j)) (fun i _ => n - (intOf i).toNat)
  case atStart => exact ⟨0, _, Nat.zero_le _, rfl, rowIs_pairs w n, (Below.refl _ _).alloc (Nat.le_refl _) _, fun j hj => by omega⟩
  case round =>
    obtain ⟨k, f, hk, rfl, hrw, hbl, hf⟩ := hrel
    by_cases hlt : k < n
    · obtain ⟨b1, o1, rfl, hc1⟩ := i1 (by omega)
      have hck1 : wr.cell? ⟨b1, o1 + k, none⟩ = _ := (hbl.cell (lt_of_cell (hc1 k hlt))).trans (hc1 k hlt)
      obtain ⟨b2, o2, rfl, hc2⟩ := i2 (by omega)
      have hck2 : wr.cell? ⟨b2, o2 + k, none⟩ = _ := (hbl.cell (lt_of_cell (hc2 k hlt))).trans (hc2 k hlt)
      clear hc1 hc2
      have g1 := hrw.cell (i := k * 2) (by omega)
      have g2 := hrw.cell (i := k * 2 + 1) (by omega)
      have f1 := hrw.frozen (k * 2)
      have f2 := hrw.frozen (k * 2 + 1)
      have HP : Hid (∃ f', ((wr.setCell ⟨w.heap.size, k * 2, none⟩ (.int .i32 (K k))).setCell ⟨w.heap.size, k * 2 + 1, none⟩ (.int .i32 (V k))).rowIs w.heap.size 91 (n * 2) f' ∧ ∀ j, j < (k + 1) * 2 → f' j = pairF K V j) := pair_step hrw hf.out
      have HB : Hid (Below w.heap.size w ((wr.setCell ⟨w.heap.size, k * 2, none⟩ (.int .i32 (K k))).setCell ⟨w.heap.size, k * 2 + 1, none⟩ (.int .i32 (V k)))) := (hbl.setCell (by simp) _).setCell (by simp) _
      go_wp2
      go_region
      go_wp2
      obtain ⟨f', r1, r2⟩ := HP.out
      go_roundw
      case rel => exact ⟨k + 1, f', by omega, by go_num, r1.drew, HB.out.drew, r2⟩
      case measure => simp [intOf]; omega
    · obtain rfl : k = n := by omega
      go_wp2
      go_ret
      exact ⟨rfl, hrw.congr fun j hj => hf.out j hj, hbl⟩

end Go.Proofs.Qxb6602268a.M
