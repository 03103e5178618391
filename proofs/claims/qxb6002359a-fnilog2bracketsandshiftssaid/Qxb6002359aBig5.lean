/- internal/byteorder.BEUint64, math/big.bigEndianWord. -/
import Derived.Test.Qxb6002359aBig4
import Derived.Laws.BitsAllLaws
namespace Go.Proofs.Qxb6002359a.B
open Go.RowKit Go.ChangeShapes Go.WideShapes Go.ChangeAt
set_option linter.unusedVariables false
set_option linter.unusedSimpArgs false

def be8 (z : Nat → Nat) : Nat := z 0 * 72057594037927936 + z 1 * 281474976710656 + z 2 * 1099511627776 + z 3 * 4294967296 + z 4 * 16777216 + z 5 * 65536 + z 6 * 256 + z 7

/-- or of numbers that share no bit -/
theorem u64_or_sum (k : Nat) (hi lo : Nat) (h1 : lo < 2 ^ k) (h2 : hi * 2 ^ k + lo < 18446744073709551616) : bits .or .u64 (lo : Int) ((hi * 2 ^ k : Nat) : Int) = ((hi * 2 ^ k + lo : Nat) : Int) := by
  rw [u64_or_nat lo (hi * 2 ^ k) (by omega) (by omega), Nat.or_comm, Nat.mul_comm hi, ← Nat.two_pow_add_eq_or_of_lt h1]

theorem or_step (k m lo hi : Nat) (hm : 2 ^ k = m) (h1 : lo < m) (h2 : hi * m + lo < 18446744073709551616) : bits .or .u64 (lo : Int) ((hi : Int) * (m : Int)) = ((hi * m + lo : Nat) : Int) := by
  subst hm
  have := u64_or_sum k hi lo h1 h2
  rwa [Int.natCast_mul] at this

theorem be8_or (z : Nat → Nat) (h0 : z 0 ≤ 255) (h1 : z 1 ≤ 255) (h2 : z 2 ≤ 255) (h3 : z 3 ≤ 255) (h4 : z 4 ≤ 255) (h5 : z 5 ≤ 255) (h6 : z 6 ≤ 255) (h7 : z 7 ≤ 255) :
    bits .or .u64 (bits .or .u64 (bits .or .u64 (bits .or .u64 (bits .or .u64 (bits .or .u64 (bits .or .u64 (z 7 : Int) ((z 6 : Int) * 256)) ((z 5 : Int) * 65536)) ((z 4 : Int) * 16777216)) ((z 3 : Int) * 4294967296)) ((z 2 : Int) * 1099511627776)) ((z 1 : Int) * 281474976710656)) ((z 0 : Int) * 72057594037927936) = (be8 z : Nat) := by
  have e1 := or_step 8 256 (z 7) (z 6) (by decide) (by omega) (by omega)
  have e2 := or_step 16 65536 (z 6 * 256 + z 7) (z 5) (by decide) (by omega) (by omega)
  have e3 := or_step 24 16777216 (z 5 * 65536 + (z 6 * 256 + z 7)) (z 4) (by decide) (by omega) (by omega)
  have e4 := or_step 32 4294967296 (z 4 * 16777216 + (z 5 * 65536 + (z 6 * 256 + z 7))) (z 3) (by decide) (by omega) (by omega)
  have e5 := or_step 40 1099511627776 (z 3 * 4294967296 + (z 4 * 16777216 + (z 5 * 65536 + (z 6 * 256 + z 7)))) (z 2) (by decide) (by omega) (by omega)
  have e6 := or_step 48 281474976710656 (z 2 * 1099511627776 + (z 3 * 4294967296 + (z 4 * 16777216 + (z 5 * 65536 + (z 6 * 256 + z 7))))) (z 1) (by decide) (by omega) (by omega)
  have e7 := or_step 56 72057594037927936 (z 1 * 281474976710656 + (z 2 * 1099511627776 + (z 3 * 4294967296 + (z 4 * 16777216 + (z 5 * 65536 + (z 6 * 256 + z 7)))))) (z 0) (by decide) (by omega) (by omega)
  have f1 : bits .or .u64 (z 7 : Int) ((z 6 : Int) * 256) = _ := e1
  have f2 : bits .or .u64 _ ((z 5 : Int) * 65536) = _ := e2
  have f3 : bits .or .u64 _ ((z 4 : Int) * 16777216) = _ := e3
  have f4 : bits .or .u64 _ ((z 3 : Int) * 4294967296) = _ := e4
  have f5 : bits .or .u64 _ ((z 2 : Int) * 1099511627776) = _ := e5
  have f6 : bits .or .u64 _ ((z 1 : Int) * 281474976710656) = _ := e6
  have f7 : bits .or .u64 _ ((z 0 : Int) * 72057594037927936) = _ := e7
  have g : z 0 * 72057594037927936 + (z 1 * 281474976710656 + (z 2 * 1099511627776 + (z 3 * 4294967296 + (z 4 * 16777216 + (z 5 * 65536 + (z 6 * 256 + z 7)))))) = be8 z := by unfold be8; omega
  rw [f1, f2, f3, f4, f5, f6, f7, g]

set_option maxRecDepth 100000 in
set_option maxHeartbeats 1600000 in
theorem be64_any (w : World) (b o n c : Nat) (z : Nat → Nat) (hn : 8 ≤ n) (hz : ∀ i, i < 8 → z i ≤ 255) (hc : ∀ i, i < 8 → w.cell? ⟨b, o + i, none⟩ = some (.int .u8 (z i : Nat))) :
    Calls Try.prog 67 #[.slice (some ⟨b, o, none⟩) n c] w (fun e w' => e = .returned (.int .u64 (be8 z : Nat)) ∧ ∃ q, w' = w.drewN q) := by
  have c0 := hc 0 (by omega)
  have c1 := hc 1 (by omega)
  have c2 := hc 2 (by omega)
  have c3 := hc 3 (by omega)
  have c4 := hc 4 (by omega)
  have c5 := hc 5 (by omega)
  have c6 := hc 6 (by omega)
  have c7 := hc 7 (by omega)
  have h0 := hz 0 (by omega)
  have h1 := hz 1 (by omega)
  have h2 := hz 2 (by omega)
  have h3 := hz 3 (by omega)
  have h4 := hz 4 (by omega)
  have h5 := hz 5 (by omega)
  have h6 := hz 6 (by omega)
  have h7 := hz 7 (by omega)
  have n0 : (0 : Int) < n := by omega
  have n1 : (1 : Int) < n := by omega
  have n2 : (2 : Int) < n := by omega
  have n3 : (3 : Int) < n := by omega
  have n4 : (4 : Int) < n := by omega
  have n5 : (5 : Int) < n := by omega
  have n6 : (6 : Int) < n := by omega
  have n7 : (7 : Int) < n := by omega
  clear hc hz
  rw [Nat.add_zero] at c0
  go_enter Try.func67, Try.ntmps67
  go_wp2_with fail
  go_quiet (fail)
  go_wp2_with fail
  go_ret
  refine ⟨?_, _, rfl⟩
  have := be8_or z h0 h1 h2 h3 h4 h5 h6 h7
  rw [← this]
  rfl

set_option maxRecDepth 100000 in
theorem beWord_any (w : World) (b o n c : Nat) (z : Nat → Nat) (hn : 8 ≤ n) (hz : ∀ i, i < 8 → z i ≤ 255) (hc : ∀ i, i < 8 → w.cell? ⟨b, o + i, none⟩ = some (.int .u8 (z i : Nat))) :
    Calls Try.prog 59 #[.slice (some ⟨b, o, none⟩) n c] w (fun e w' => e = .returned (.int .u64 (be8 z : Nat)) ∧ ∃ q, w' = w.drewN q) := by
  have HC := hid (be64_any w b o n c z hn hz hc)
  clear hn hz hc
  go_enter Try.func59, Try.ntmps59
  go_wp2_with (go_at_call 67; refine HC.out.mono ?_; clear HC; rintro e w1 ⟨rfl, q, rfl⟩)
  go_ret
  exact ⟨rfl, q, rfl⟩

end Go.Proofs.Qxb6002359a.B
