/- zzUnpack. -/
import Derived.Test.Qxb6602268aSame
namespace Go.Proofs.Qxb6602268a.M
open Go.ChangeShapes Go.WideShapes Go.ChangeAt Go.RowKit Go.Maps
set_option linter.unusedVariables false

/-- The slice at 'a' of n pairs reads (K 0, V 0) .. -/
def Prs (w : World) (a : Option Addr) (n : Nat) (K V : Nat → Int) : Prop :=
  0 < n → ∃ b, a = some ⟨b, 0, none⟩ ∧ ∀ i, i < n → w.cell? ⟨b, i * 2, none⟩ = some (.int .i32 (K i)) ∧ w.cell? ⟨b, i * 2 + 1, none⟩ = some (.int .i32 (V i))

theorem Prs.below {w w' : World} {a : Option Addr} {n : Nat} {K V : Nat → Int} (h : Prs w a n K V) (hb : Below w.heap.size w w') : Prs w' a n K V := by
  intro h0
  obtain ⟨b, ha, hc⟩ := h h0
  exact ⟨b, ha, fun i hi => ⟨(hb.cell (lt_of_cell (hc i hi).1)).trans (hc i hi).1, (hb.cell (lt_of_cell (hc i hi).2)).trans (hc i hi).2⟩⟩

def fillF (K : Nat → Int) (k j : Nat) : Value := if j < k then .int .i32 (K j) else .int .i32 0
theorem fill_row {w : World} {g n k : Nat} {K : Nat → Int} (h : w.rowIs g 21 n (fillF K k)) : (w.setCell ⟨g, k, none⟩ (.int .i32 (K k))).rowIs g 21 n (fillF K (k + 1)) :=
  (h.set k _).congr fun j hj => by
    unfold fillF
    by_cases e : j = k
    · subst e; rw [if_pos rfl, if_pos (by omega)]
    · rw [if_neg e]
      by_cases e2 : j < k
      · rw [if_pos e2, if_pos (by omega)]
      · rw [if_neg e2, if_neg (by omega)]
theorem ints_of_row {w : World} {g n : Nat} {K : Nat → Int} (h : w.rowIs g 21 n (fillF K n)) : Ints w (some ⟨g, 0, none⟩) n K := fun h0 => ⟨g, 0, rfl, fun i hi => by rw [Nat.zero_add, h.cell hi]; unfold fillF; rw [if_pos hi]⟩

/-- two slices of numbers have come back -/
def RetInts2 (w w' : World) (e : Ending) (n : Nat) (K V : Nat → Int) : Prop :=
  ∃ a1 a2, e = .returned (.tuple #[.slice a1 n n, .slice a2 n n]) ∧ Ints w' a1 n K ∧ Ints w' a2 n V ∧ Below w.heap.size w w'

set_option maxRecDepth 100000 in
set_option maxHeartbeats 800000 in
theorem unpack_any (w : World) (a : Option Addr) (n c : Nat) (K V : Nat → Int) (hn : n ≤ 1048576) (hp : Prs w a n K V) :
    Calls Try.prog 43 #[.slice a n c] w (fun e w' => RetInts2 w w' e n K V) := by
  have hmk := run_make_row' (P := Try.prog) 24 21 (.int .i32 0) 4 Try.underlying24 info21 rfl .i64 .i64 n (by omega) (by omega)
  have HP : Hid (Prs w a n K V) := hp
  clear hp
  go_enter Try.func43, Try.ntmps43
  go_wp2_with fail
  go_loopw [6] (fun i wr => ∃ k : Nat, k ≤ n ∧ i = .int .i64 k ∧ wr.rowIs w.heap.size 21 n (fillF K k) ∧ wr.rowIs (w.heap.size + 1) 21 n (fillF V k) ∧ Below w.heap.size w wr) (fun i _ => n - (intOf i).toNat)
  case atStart =>
    refine ⟨0, Nat.zero_le _, rfl, ?_, ?_, ((Below.refl _ _).alloc (Nat.le_refl _) _).alloc (by simp) _⟩
    · exact ((World.rowIs_made w (.int .i32 0) n 21).alloc _).congr fun j hj => by simp [fillF]
    · have := World.rowIs_made (w.alloc (.cells (madeCells #[.int .i32 0] n) 21)) (.int .i32 0) n 21
      simp only [World.size_alloc] at this
      exact this.congr fun j hj => by simp [fillF]
  case round =>
    obtain ⟨k, hk, rfl, h1, h2, hbl⟩ := hrel
    clear hmk
    by_cases hlt : k < n
    · obtain ⟨b, rfl, hc⟩ := HP.out (by omega)
      have hbw : b < w.heap.size := lt_of_cell (hc k hlt).1
      have q1 : wr.cell? ⟨b, k * 2, none⟩ = some (.int .i32 (K k)) := (hbl.cell (by exact hbw)).trans (hc k hlt).1
      have q2 : wr.cell? ⟨b, k * 2 + 1, none⟩ = some (.int .i32 (V k)) := (hbl.cell (by exact hbw)).trans (hc k hlt).2
      have q2' : (wr.setCell ⟨w.heap.size, k, none⟩ (.int .i32 (K k))).cell? ⟨b, k * 2 + 1, none⟩ = some (.int .i32 (V k)) := by
        rw [World.cell?_setCell_far _ _ _ _ (by simp; omega)]; exact q2
      have r1 := h1.cell hlt
      have f1 := h1.frozen k
      have h2' := h2.setOther (a := ⟨w.heap.size, k, none⟩) (by simp) (.int .i32 (K k))
      have r2 := h2'.cell hlt
      have f2 := h2'.frozen k
      have HB : Hid (Below w.heap.size w ((wr.setCell ⟨w.heap.size, k, none⟩ (.int .i32 (K k))).setCell ⟨w.heap.size + 1, k, none⟩ (.int .i32 (V k)))) := (hbl.setCell (by simp) _).setCell (by simp) _
      have H1 : Hid (((wr.setCell ⟨w.heap.size, k, none⟩ (.int .i32 (K k))).setCell ⟨w.heap.size + 1, k, none⟩ (.int .i32 (V k))).rowIs w.heap.size 21 n (fillF K (k + 1))) := (fill_row h1).setOther (by simp) _
      have H2 : Hid (((wr.setCell ⟨w.heap.size, k, none⟩ (.int .i32 (K k))).setCell ⟨w.heap.size + 1, k, none⟩ (.int .i32 (V k))).rowIs (w.heap.size + 1) 21 n (fillF V (k + 1))) := fill_row h2'
      have hkn : (k : Int) < n := by omega
      clear hc h1 h2 h2' q2
      go_wp2_with fail
      go_roundw
      case rel => exact ⟨k + 1, by omega, by go_num, H1.out, H2.out, HB.out⟩
      case measure => simp [intOf]; omega
    · obtain rfl : k = n := by omega
      go_wp2_with fail
      try go_quiet (fail)
      try go_wp2_with fail
      go_ret2
      exact ⟨_, _, rfl, ints_of_row h1, ints_of_row h2, hbl⟩

end Go.Proofs.Qxb6602268a.M
