/- math/big's nat: norm, set. -/
import Derived.Test.Qxb6002359aBig1
namespace Go.Proofs.Qxb6002359a.B
open Go.RowKit Go.ChangeShapes Go.WideShapes Go.ChangeAt
set_option linter.unusedVariables false
set_option linter.unusedSimpArgs false

theorem elem63 : Try.prog.elem 63 = 87 := by kernel_rfl
theorem und63 : Try.prog.underlying 63 = some (.slice (Try.prog.elem 63)) := by rw [elem63]; exact Try.underlying63
theorem cut63 (a : Option Addr) (n c m : Nat) (h : m ≤ c) (w : World) : (Instr.slice 63 (.slice a n c) (some (.int .i64 0)) (some (.int .i64 (m : Int))) none).run Try.prog w = .ok (.slice a m c) w := by
  have h2 : (sizeOf (Try.prog.elem 63)).run Try.prog w = .ok 1 w := by rw [elem63]; exact Try.sizeOf87 w
  rw [run_slice_lh (P := Try.prog) w 63 a n c und63 .i64 .i64 0 (m : Int) (by omega) (by omega) (by omega), h2]
  have h3 : sliced a (0 : Int).toNat (m : Int).toNat c 1 = .slice a m c := by
    unfold sliced
    cases a with
    | none => simp
    | some x => simp [Addr.add]
  show Result.ok (sliced a (0 : Int).toNat (m : Int).toNat c 1) w = _
  rw [h3]

/-- the words above m are 0, and the one below is not -/
structure Cut (n m : Nat) (W : Nat → Nat) : Prop where
  le : m ≤ n
  zero : ∀ i, m ≤ i → i < n → W i = 0
  top : m = 0 ∨ W (m - 1) ≠ 0

def RetNorm (w w' : World) (e : Ending) (a : Option Addr) (n c : Nat) (W : Nat → Nat) : Prop := ∃ m, e = .returned (.slice a m c) ∧ Cut n m W ∧ w' = w

set_option maxRecDepth 100000 in
theorem norm_any (w : World) (a : Option Addr) (n c : Nat) (W : Nat → Nat) (hn : n ≤ 65536) (hc : n ≤ c) (hw : Wds w a n W) :
    Calls Try.prog 60 #[.slice a n c] w (fun e w' => RetNorm w w' e a n c W) := by
  have HW : Hid (Wds w a n W) := hw
  have hcut := fun m (h : m ≤ n) w => cut63 a n c m (by omega) w
  have HC := hid hcut
  clear hw hcut
  go_enter Try.func60, Try.ntmps60
  go_wp2_with fail
  go_loopw [3] (fun i wr => ∃ k : Nat, k ≤ n ∧ i = .int .i64 k ∧ wr = w ∧ Hid (∀ i, k ≤ i → i < n → W i = 0)) (fun i _ => (intOf i).toNat)
  case atStart => exact ⟨n, Nat.le_refl _, rfl, rfl, fun i h1 h2 => by omega⟩
  case round =>
    obtain ⟨k, hk, rfl, rfl, hz⟩ := hrel
    by_cases h0 : k = 0
    · subst h0
      have hcu := HC.out 0 (by omega) wr
      go_wp2_with fail
      go_ret
      exact ⟨0, rfl, ⟨by omega, hz.out, Or.inl rfl⟩, rfl⟩
    · obtain ⟨k', rfl⟩ : ∃ k', k = k' + 1 := ⟨k - 1, by omega⟩
      obtain ⟨b, rfl, hcs⟩ := HW.out (by omega)
      have c1 := hcs k' (by omega)
      have hkn : (k' : Int) < n := by omega
      clear hcs
      by_cases hW : W k' = 0
      · rw [hW] at c1
        go_wp2_with fail
        go_roundw
        case rel => exact ⟨k', by omega, by go_num, by simp, fun i h1 h2 => by
          by_cases e : i = k'
          · rw [e, hW]
          · exact hz.out i (by omega) h2⟩
        case measure => simp [intOf]
      · have hW' : ((W k' : Int) == 0) = false := by rw [beq_eq_false_iff_ne]; omega
        have hcu := HC.out (k' + 1) (by omega) wr
        rw [Int.natCast_add] at hcu
        go_wp2_with fail
        go_ret
        exact ⟨k' + 1, rfl, ⟨hk, hz.out, Or.inr (by simpa using hW)⟩, rfl⟩

end Go.Proofs.Qxb6002359a.B
