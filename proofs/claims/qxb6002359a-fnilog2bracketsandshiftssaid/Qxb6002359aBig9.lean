/- math/big: Rat.Num, Rat.Denom, Int.Abs, nat.bitLen, Int.BitLen. -/
import Derived.Test.Qxb6002359aBig8
import Derived.Test.Qxb6002359aBits
namespace Go.Proofs.Qxb6002359a.B
open Go.RowKit Go.ChangeShapes Go.WideShapes Go.ChangeAt
set_option linter.unusedVariables false
set_option linter.unusedSimpArgs false

set_option maxRecDepth 100000 in
theorem ratNum (w : World) (r : Nat) (neg : Bool) (h : w.cell? ⟨r, 0, none⟩ = some (.bool neg)) : Calls Try.prog 51 #[.pointer (some ⟨r, 0, none⟩)] w (fun e w' => e = .returned (.pointer (some ⟨r, 0, none⟩)) ∧ w' = w) := by
  go_enter Try.func51, Try.ntmps51
  go_wp2_with fail
  go_ret
  exact ⟨rfl, rfl⟩

set_option maxRecDepth 100000 in
theorem ratDenom (w : World) (r n c : Nat) (a : Option Addr) (neg : Bool) (h1 : 1 ≤ n) (h : IntAt w r 2 neg a n c) : Calls Try.prog 52 #[.pointer (some ⟨r, 0, none⟩)] w (fun e w' => e = .returned (.pointer (some ⟨r, 2, none⟩)) ∧ w' = w) := by
  have z1 : w.cell? ⟨r, 3, none⟩ = some (.slice a n c) := h.2
  have h1' : ((n : Int) == 0) = false := by rw [beq_eq_false_iff_ne]; omega
  clear h
  go_enter Try.func52, Try.ntmps52
  go_wp2_with fail
  go_ret
  exact ⟨rfl, rfl⟩

set_option maxRecDepth 100000 in
theorem intAbs_fresh (w : World) (zb zo xb xo n cx : Nat) (a : Option Addr) (W : Nat → Nat) (zn xn : Bool) (h1 : 1 ≤ n) (hn : n ≤ 65536) (hne : zb ≠ xb) (hz : Plain w zb) (hx : Plain w xb)
    (zi : IntAt w zb zo zn none 0 0) (xi : IntAt w xb xo xn a n cx) (hw : Wds w a n W) :
    Calls Try.prog 50 #[.pointer (some ⟨zb, zo, none⟩), .pointer (some ⟨xb, xo, none⟩)] w (fun e w' => e = .returned (.pointer (some ⟨zb, zo, none⟩)) ∧ ∃ c, CapOk n c ∧ Wds w' (some ⟨w.heap.size, 0, none⟩) n W ∧ IntAt w' zb zo false (some ⟨w.heap.size, 0, none⟩) n c ∧ Kept zb w w') := by
  have HC := hid (intSet_fresh w zb zo xb xo n cx a W zn xn h1 hn hne hz hx zi xi hw)
  have HZ := hid hz
  have hzl := hz.lt
  clear hz hx zi xi hw
  go_enter Try.func50, Try.ntmps50
  go_wp2_with (go_at_call 47; refine HC.out.mono ?_; clear HC; rintro e w1 ⟨rfl, c, hcap, hW, hi, hk, ho⟩; have c1 := hi.1; have c2 := hi.2; have f1 := (HZ.out.kept hk).frozen; have HR := hid (And.intro hW (And.intro hi hk)); clear hW hi hk ho)
  go_ret
  have hk2 : Kept zb w1 (w1.setCell ⟨zb, zo, none⟩ (.bool false)) := Kept.setCell zb zo _ w1
  refine ⟨rfl, c, hcap, hk2.wds HR.out.1 (by omega), ⟨World.cell?_setCell_same _ _ _ c1, ?_⟩, HR.out.2.2.trans hk2⟩
  rw [World.cell?_setCell_other _ _ _ _ (by simp)]; exact c2

theorem bitLen_log2 (x : Nat) (h0 : x ≠ 0) (h : x < 18446744073709551616) : Lib.bitLen x = Nat.log2 x + 1 := by
  induction x using Nat.strongRecOn with
  | ind x ih =>
    rw [Lib.bitLen_half x h0 (by omega)]
    by_cases h2 : x < 2
    · obtain rfl : x = 1 := by omega
      decide
    · rw [ih (x / 2) (by omega) (by omega) (by omega)]
      rw [Nat.log2_def x, if_pos (by omega)]
      omega
theorem smear (k m t : Nat) (hm : 2 ^ k = m) (h0 : 1 ≤ t) (ht : t < 18446744073709551616) : ∃ t' : Nat, bits .or .u64 (t : Int) ((t : Int) / (m : Int)) = (t' : Int) ∧ 1 ≤ t' ∧ t' < 18446744073709551616 ∧ Lib.bitLen t' = Lib.bitLen t := by
  have hdiv : t / m ≤ t := Nat.div_le_self _ _
  have hL : t < 2 ^ (Nat.log2 t + 1) := Nat.lt_log2_self
  have hU : t ||| t / m < 2 ^ (Nat.log2 t + 1) := Nat.or_lt_two_pow hL (by omega)
  have hle : t ≤ t ||| t / m := Nat.left_le_or
  have h64 : t ||| t / m < 2 ^ 64 := Nat.or_lt_two_pow (by omega) (by omega)
  refine ⟨t ||| t / m, ?_, by omega, by omega, ?_⟩
  · rw [← Int.natCast_ediv, u64_or_nat t (t / m) (by omega) (by omega)]
  · rw [bitLen_log2 _ (by omega) (by omega), bitLen_log2 t (by omega) (by omega)]
    have : Nat.log2 (t ||| t / m) = Nat.log2 t := by
      rw [Nat.log2_eq_iff (by omega)]
      exact ⟨Nat.le_trans (Nat.log2_self_le (by omega)) hle, hU⟩
    rw [this]

set_option maxRecDepth 100000 in
theorem bitLen_any (w : World) (g n c : Nat) (W : Nat → Nat) (h1 : 1 ≤ n) (hn : n ≤ 65536) (hW : W (n - 1) < 18446744073709551616) (hW0 : 1 ≤ W (n - 1)) (hw : Wds w (some ⟨g, 0, none⟩) n W) :
    Calls Try.prog 62 #[.slice (some ⟨g, 0, none⟩) n c] w (fun e w' => e = .returned (.int .i64 ((64 * (n - 1) + Lib.bitLen (W (n - 1)) : Nat) : Int)) ∧ w' = w) := by
  obtain ⟨b, hb, hcs⟩ := hw h1
  cases hb
  have c0 := hcs (n - 1) (by omega)
  clear hw hcs
  generalize W (n - 1) = t0 at *
  have h1' : (1 : Int) ≤ n := by omega
  obtain ⟨t1, e1, a1, b1, l1⟩ := smear 1 2 t0 (by decide) hW0 hW
  obtain ⟨t2, e2, a2, b2, l2⟩ := smear 2 4 t1 (by decide) a1 b1
  obtain ⟨t3, e3, a3, b3, l3⟩ := smear 4 16 t2 (by decide) a2 b2
  obtain ⟨t4, e4, a4, b4, l4⟩ := smear 8 256 t3 (by decide) a3 b3
  obtain ⟨t5, e5, a5, b5, l5⟩ := smear 16 65536 t4 (by decide) a4 b4
  obtain ⟨t6, e6, a6, b6, l6⟩ := smear 32 4294967296 t5 (by decide) a5 b5
  have hl : Lib.bitLen t6 = Lib.bitLen t0 := by rw [l6, l5, l4, l3, l2, l1]
  have HC := hid (bits_Len (t6 : Int) w (by omega) (by omega))
  have hle : Lib.bitLen t6 ≤ 64 := Lib.bitLen_le t6 64 (by omega) (by omega)
  rw [Int.toNat_natCast] at HC
  rw [← hl]
  have d5 : (t5 : Int) / 65536 / 65536 = (t5 : Int) / 4294967296 := by omega
  replace e1 : bits .or .u64 (t0 : Int) ((t0 : Int) / 2) = (t1 : Int) := e1
  replace e2 : bits .or .u64 (t1 : Int) ((t1 : Int) / 4) = (t2 : Int) := e2
  replace e3 : bits .or .u64 (t2 : Int) ((t2 : Int) / 16) = (t3 : Int) := e3
  replace e4 : bits .or .u64 (t3 : Int) ((t3 : Int) / 256) = (t4 : Int) := e4
  replace e5 : bits .or .u64 (t4 : Int) ((t4 : Int) / 65536) = (t5 : Int) := e5
  replace e6 : bits .or .u64 (t5 : Int) ((t5 : Int) / 4294967296) = (t6 : Int) := e6
  clear l1 l2 l3 l4 l5 l6 hl
  generalize Lib.bitLen t6 = LL at *
  go_enter Try.func62, Try.ntmps62
  go_wp2_with (go_at_call 69; refine HC.out.mono ?_; clear HC; rintro e w1 ⟨rfl, rfl⟩)
  go_ret
  refine ⟨?_, rfl⟩
  rw [show ((64 * (n - 1) + LL : Nat) : Int) = ((n : Int) - 1) * 64 + (LL : Int) by omega]
  rfl

/-- the length in bits of n words -/
def bl (n : Nat) (W : Nat → Nat) : Nat := 64 * (n - 1) + (Nat.log2 (W (n - 1)) + 1)

set_option maxRecDepth 100000 in
theorem intBitLen (w : World) (b o g n c : Nat) (neg : Bool) (W : Nat → Nat) (h1 : 1 ≤ n) (hn : n ≤ 65536) (hW : W (n - 1) < 18446744073709551616) (hW0 : 1 ≤ W (n - 1)) (hi : IntAt w b o neg (some ⟨g, 0, none⟩) n c) (hw : Wds w (some ⟨g, 0, none⟩) n W) :
    Calls Try.prog 53 #[.pointer (some ⟨b, o, none⟩)] w (fun e w' => e = .returned (.int .i64 (bl n W : Nat)) ∧ w' = w) := by
  have HC := hid (bitLen_any w g n c W h1 hn hW hW0 hw)
  rw [bitLen_log2 _ (by omega) hW] at HC
  have z1 := hi.2
  clear hi hw
  go_enter Try.func53, Try.ntmps53
  go_wp2_with (go_at_call 62; refine HC.out.mono ?_; clear HC; rintro e w1 ⟨rfl, rfl⟩)
  go_ret
  exact ⟨rfl, rfl⟩

end Go.Proofs.Qxb6002359a.B
