/- The walks of fingerprint and mix. -/
import Derived.Test.Qxb6602268aCloneLib
namespace Go.Proofs.Qxb6602268a.M
open Go.ChangeShapes Go.WideShapes Go.ChangeAt Go.RowKit
set_option linter.unusedVariables false

def mixA (x : Int) : Int := IntKind.u64.wrap (bits BinOp.xor IntKind.u64 x (x / 2147483648) * 9202493588570546565)
def mixB (x : Int) : Int := IntKind.u64.wrap (bits BinOp.xor IntKind.u64 (mixA x) (mixA x / 134217728) * 9357036318526133325)
def mixI (x : Int) : Int := bits BinOp.xor IntKind.u64 (mixB x) (mixB x / 8589934592)
/-- key k's part of a state's hash when it holds v -/
def fpI (k v : Int) : Int := if v = 0 then 0 else mixI (bits BinOp.or IntKind.u64 (k % 4294967296 * 4294967296) (v % 4294967296))

theorem mix_any (x : Int) (w : World) : Calls Try.prog 51 #[.int .u64 x] w fun e w' => e = .returned (.int .u64 (mixI x)) ∧ w' = w := by
  go_enter Try.func51, Try.ntmps51
  go_wp2
  go_ret
  exact ⟨rfl, rfl⟩

theorem fp_any (k v : Int) (w : World) : Calls Try.prog 48 #[.int .i32 k, .int .i32 v] w fun e w' => e = .returned (.int .u64 (fpI k v)) ∧ w' = w := by
  by_cases h : v = 0
  · have hv : (v == 0) = true := by simp [h]
    have e : fpI k v = 0 := if_pos h
    rw [e]
    clear h e
    go_enter Try.func48, Try.ntmps48
    go_wp2_with fail
    go_ret
    exact ⟨rfl, rfl⟩
  · have hv : (v == 0) = false := by simp [h]
    have e : fpI k v = mixI (bits BinOp.or IntKind.u64 (k % 4294967296 * 4294967296) (v % 4294967296)) := if_neg h
    rw [e]
    clear h e
    go_enter Try.func48, Try.ntmps48
    go_wp2_with fail
    refine (mix_any _ _).mono ?_
    rintro e w' ⟨rfl, rfl⟩
    go_wp2_with fail
    go_ret
    exact ⟨rfl, rfl⟩

end Go.Proofs.Qxb6602268a.M
