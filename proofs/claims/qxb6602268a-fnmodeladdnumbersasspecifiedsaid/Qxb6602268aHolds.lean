/- The walk of (*model).holds. -/
import Derived.Test.Qxb6602268aFp
namespace Go.Proofs.Qxb6602268a.M
open Go.ChangeShapes Go.WideShapes Go.ChangeAt Go.RowKit
set_option linter.unusedVariables false

theorem below_drewN {B : Nat} {w w' : World} (h : Below B w w') {q : Nat} : Below B w (w'.drewN q) := ⟨h.os, h.tape, h.output, h.size, h.block⟩

set_option maxHeartbeats 2000000 in
theorem holds_any (mb ob rg : Nat) (ps h : Int) (a : Option Addr) (n c nr rc : Nat) (A : Nat → Option Addr) (L C : Nat → Nat) (Z : Nat → Nat → Int) (RK RV : Nat → Int) (w : World) (hp : Pages w a n A L C Z)
    (hm : w.cell? ⟨mb, 3, none⟩ = some (.int .i32 ps)) (ho : w.cell? ⟨ob, 0, none⟩ = some (.slice (some ⟨rg, 0, none⟩) nr rc)) (hr : w.rowIs rg 91 (nr * 2) (pairF RK RV))
    (hn : n ≤ 131072) (hL : ∀ r, r < n → L r ≤ 131072) (h1 : nr ≤ 131072) (hps : 1 ≤ ps) (hps2 : ps ≤ 2147483647)
    (hk : ∀ i, i < nr → kin n L ps (RK i) = true) (hk2 : ∀ i, i < nr → RK i ≤ 2147483647) :
    Calls Try.prog 45 #[.pointer (some ⟨mb, 0, none⟩), .agg #[.slice a n c, .int .u64 h], .pointer (some ⟨ob, 0, none⟩)] w fun e w' => e = .returned (.bool (rh Z ps RK RV nr)) ∧ Below w.heap.size w w' := by
  have bm := lt_of_cell hm
  have bo := lt_of_cell ho
  have br := hr.lt
  go_enter Try.func45, Try.ntmps45
  go_wp2
  go_loopw [14] (fun i wr => ∃ (k : Nat), k ≤ nr ∧ i = .int .i64 k ∧ Below (w.alloc (.cells #[.slice a n c, .int .u64 h] 77)).heap.size (w.alloc (.cells #[.slice a n c, .int .u64 h] 77)) wr ∧ Hid (rh Z ps RK RV k = true)) (fun i _ => nr - (intOf i).toNat)
  case atStart => exact ⟨0, Nat.zero_le _, rfl, Below.refl _ _, rfl⟩
  case round =>
    obtain ⟨k, hkk, rfl, hbl, hrh⟩ := hrel
    have hbl0 : Below w.heap.size w wr := ((Below.refl _ _).alloc (Nat.le_refl _) _).trans (hbl.mono (by simp))
    by_cases hlt : k < nr
    · obtain ⟨q0, q1, q2⟩ := (kin_iff _ _ _ _).1 (hk k hlt)
      have q3 := hk2 k hlt
      obtain ⟨b, o, rfl, hc⟩ := hp.top (by omega)
      obtain ⟨y, oy, hy, hyc⟩ := hp.row _ q1 (by omega)
      have hck : wr.cell? ⟨b, o + (RK k / ps).toNat, none⟩ = _ := (hbl0.cell (lt_of_cell (hc _ q1))).trans (hc _ q1)
      have hcy : wr.cell? ⟨y, oy + (RK k % ps).toNat, none⟩ = _ := (hbl0.cell (lt_of_cell (hyc _ q2))).trans (hyc _ q2)
      rw [hy] at hck
      have hm' : wr.cell? ⟨mb, 3, none⟩ = _ := (hbl0.cell bm).trans hm
      have hs' : wr.cell? ⟨w.heap.size, 0, none⟩ = some (.slice (some ⟨b, o, none⟩) n c) := (hbl.cell (by simp)).trans (by simp)
      have hp1 : wr.cell? ⟨rg, k * 2, none⟩ = some (.int .i32 (RK k)) := (hbl0.cell br).trans ((hr.cell (by omega)).trans (by rw [pairF_key]))
      have hp2 : wr.cell? ⟨rg, k * 2 + 1, none⟩ = some (.int .i32 (RV k)) := (hbl0.cell br).trans ((hr.cell (by omega)).trans (by rw [pairF_val]))
      obtain ⟨d0, d1⟩ := div_bd (RK k) ps hps q0
      obtain ⟨m0, m1⟩ := mod_bd (RK k) ps hps
      have hLk := hL _ q1
      have d2 : RK k / ps < n := by omega
      have m2 : RK k % ps < (L (RK k / ps).toNat : Int) := by omega
      have s1 : b < wr.heap.size := lt_of_cell hck
      have s2 : y < wr.heap.size := lt_of_cell hcy
      have s3 : mb < wr.heap.size := lt_of_cell hm'
      have s4 : w.heap.size < wr.heap.size := lt_of_cell hs'
      have s5 : rg < wr.heap.size := lt_of_cell hp1
      have HY : Hid ((Z (RK k / ps).toNat (RK k % ps).toNat == RV k) = true → rh Z ps RK RV (k + 1) = true) := by
        intro h; rw [rh, hrh.out]; exact h
      have HN : Hid ((Z (RK k / ps).toNat (RK k % ps).toNat == RV k) = false → rh Z ps RK RV nr = false) := by
        intro h; refine rh_false (i := k + 1) ?_ hlt; rw [rh, hrh.out]; exact h
      clear hc hyc hy hL hk hk2 hm ho bm bo br
      cases hz : (Z (RK k / ps).toNat (RK k % ps).toNat == RV k)
      · have hzn : (Z (RK k / ps).toNat (RK k % ps).toNat != RV k) = true := by simp [bne, hz]
        go_wp2
        go_quiet (fail)
        go_wp2
        go_ret
        exact ⟨ret_bool (HN.out hz).symm, below_drewN (hbl0.alloc (Nat.le_of_lt s4) _)⟩
      · have hzn : (Z (RK k / ps).toNat (RK k % ps).toNat != RV k) = false := by simp [bne, hz]
        go_wp2
        go_quiet (fail)
        go_wp2
        go_roundw
        case rel => exact ⟨k + 1, by omega, by go_num, below_drewN (hbl.alloc (by simp; omega) _), HY.out hz⟩
        case measure => simp [intOf]; omega
    · obtain rfl : k = nr := by omega
      go_wp2
      go_ret
      exact ⟨ret_bool hrh.out.symm, hbl0⟩

end Go.Proofs.Qxb6602268a.M
