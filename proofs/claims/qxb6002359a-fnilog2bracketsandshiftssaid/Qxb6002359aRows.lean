/-
  No cell of these rows narrows 'for every input' (looked for: loops, veiled, ifaces, maps, wideKeys, modest, calm, conditions, laid).
  DERIVED. THE GIVEN ROWS OF THIS SEAT. 4 by the template 'for every input the law returns true; each argument reads behind the call as it read before'; 0 by the template 'total and deterministic' (their statements: Qxb6002359aTotals.lean).
  GIVEN WITH THE SEED: the statements are not yours to turn. If you find one false, say at which input.
  Laid BY PROGRAM, IN A SANDBOX (cutbox-rows.mjs): the forced cells as the released guide's own fill.sh prints them over the translation 3907bab4a0f4f5b9… (all of the seat's roots in one cut). By AI agents, Wed Nov 11 2026. No macro, syntax, notation, axiom, sorry.
-/
import Derived.Test.Qxb6002359aChecked
import GoSem.Claim
import GoSem.ClaimJoined
import GoSem.ClaimMapViews
import Derived.JoinedTies
import Derived.KernelRfl
namespace Go.Proofs.Qxb6002359a
/- THE CELL 'sum', in the pinned program and in every row, IS THE sha256 OF THE DUMP (.gsa) THAT Qxb6002359aProg.lean LOADS. Nothing in Lean hashes anything: it is a label: what it is worth is what the hold of that sum in a sandbox is worth. -/
noncomputable def Try.pinned : Pinned := { name := "qxb6002359a", sum := "3907bab4a0f4f5b9842b3eec91422570761ac8cd389f29ec148671f362809f71", checked := Try.checked }
namespace Rows
def none {H : Type} : Left H := { results := [], args := [] }

/-- 'zzlaws_root_g2.FnClipCutsAtRuneBoundary': WHATEVER THE INPUT: true; the input reads as it did. -/
def fnClipCutsAtRuneBoundarySpec : ChangeSpec := { name := "fnClipCutsAtRuneBoundary", fn := fun _ => fun
  | [d1, d2] => { results := [.lit (.bool true)], args := [d1, d2] }
  | _ => none }
def fnClipCutsAtRuneBoundaryRow : OpenClaim := { program := "qxb6002359a", sum := "3907bab4a0f4f5b9842b3eec91422570761ac8cd389f29ec148671f362809f71", func := "example.com/typefit/typefit/zzlaws_root_g2.FnClipCutsAtRuneBoundary", spec := "fnClipCutsAtRuneBoundary", apart := false }
def FnClipCutsAtRuneBoundarySaid : Prop := fnClipCutsAtRuneBoundaryRow.holds Try.pinned (OpenSpec.ofChange fnClipCutsAtRuneBoundarySpec)

/-- ITS FALSE NEIGHBOUR: 'it returns false'. Refute it at one input. -/
def fnClipCutsAtRuneBoundaryWrong : ChangeSpec := { name := "fnClipCutsAtRuneBoundary", fn := fun _ => fun
  | [d1, d2] => { results := [.lit (.bool false)], args := [d1, d2] }
  | _ => none }
def FnClipCutsAtRuneBoundaryWrongFalsely : Prop := fnClipCutsAtRuneBoundaryRow.holds Try.pinned (OpenSpec.ofChange fnClipCutsAtRuneBoundaryWrong)

/-- 'zzlaws_root_g2.FnDefinedOnClassOrder': WHATEVER THE INPUT: true; the input reads as it did. -/
def fnDefinedOnClassOrderSpec : ChangeSpec := { name := "fnDefinedOnClassOrder", fn := fun _ => fun
  | [d1, d2, d3, d4, d5] => { results := [.lit (.bool true)], args := [d1, d2, d3, d4, d5] }
  | _ => none }
def fnDefinedOnClassOrderRow : OpenClaim := { program := "qxb6002359a", sum := "3907bab4a0f4f5b9842b3eec91422570761ac8cd389f29ec148671f362809f71", func := "example.com/typefit/typefit/zzlaws_root_g2.FnDefinedOnClassOrder", spec := "fnDefinedOnClassOrder", apart := false }
def FnDefinedOnClassOrderSaid : Prop := fnDefinedOnClassOrderRow.holds Try.pinned (OpenSpec.ofChange fnDefinedOnClassOrderSpec)

/-- ITS FALSE NEIGHBOUR: 'it returns false'. Refute it at one input. -/
def fnDefinedOnClassOrderWrong : ChangeSpec := { name := "fnDefinedOnClassOrder", fn := fun _ => fun
  | [d1, d2, d3, d4, d5] => { results := [.lit (.bool false)], args := [d1, d2, d3, d4, d5] }
  | _ => none }
def FnDefinedOnClassOrderWrongFalsely : Prop := fnDefinedOnClassOrderRow.holds Try.pinned (OpenSpec.ofChange fnDefinedOnClassOrderWrong)

/-- 'zzlaws_root_g1.FnStringValueMatchesConcatenationOverScript': WHATEVER THE INPUT: true; the input reads as it did. -/
def fnStringValueMatchesConcatenationOverScriptSpec : ChangeSpec := { name := "fnStringValueMatchesConcatenationOverScript", fn := fun _ => fun
  | [d1, d2] => { results := [.lit (.bool true)], args := [d1, d2] }
  | _ => none }
def fnStringValueMatchesConcatenationOverScriptRow : OpenClaim := { program := "qxb6002359a", sum := "3907bab4a0f4f5b9842b3eec91422570761ac8cd389f29ec148671f362809f71", func := "example.com/typefit/typefit/zzlaws_root_g1.FnStringValueMatchesConcatenationOverScript", spec := "fnStringValueMatchesConcatenationOverScript", inPlace := ["internal/abi.NoEscape", "internal/bytealg.MakeNoZero"], apart := false }
def FnStringValueMatchesConcatenationOverScriptSaid : Prop := fnStringValueMatchesConcatenationOverScriptRow.holds Try.pinned (OpenSpec.ofChange fnStringValueMatchesConcatenationOverScriptSpec)

/-- ITS FALSE NEIGHBOUR: 'it returns false'. Refute it at one input. -/
def fnStringValueMatchesConcatenationOverScriptWrong : ChangeSpec := { name := "fnStringValueMatchesConcatenationOverScript", fn := fun _ => fun
  | [d1, d2] => { results := [.lit (.bool false)], args := [d1, d2] }
  | _ => none }
def FnStringValueMatchesConcatenationOverScriptWrongFalsely : Prop := fnStringValueMatchesConcatenationOverScriptRow.holds Try.pinned (OpenSpec.ofChange fnStringValueMatchesConcatenationOverScriptWrong)

/-- 'zzlaws_root_g2.FnIlog2BracketsAndShifts': WHATEVER THE INPUT: true; the input reads as it did. -/
def fnIlog2BracketsAndShiftsSpec : ChangeSpec := { name := "fnIlog2BracketsAndShifts", fn := fun _ => fun
  | [d1, d2] => { results := [.lit (.bool true)], args := [d1, d2] }
  | _ => none }
def fnIlog2BracketsAndShiftsRow : OpenClaim := { program := "qxb6002359a", sum := "3907bab4a0f4f5b9842b3eec91422570761ac8cd389f29ec148671f362809f71", func := "example.com/typefit/typefit/zzlaws_root_g2.FnIlog2BracketsAndShifts", spec := "fnIlog2BracketsAndShifts", inPlace := ["math/big.lshVU"], apart := false }
def FnIlog2BracketsAndShiftsSaid : Prop := fnIlog2BracketsAndShiftsRow.holds Try.pinned (OpenSpec.ofChange fnIlog2BracketsAndShiftsSpec)

/-- ITS FALSE NEIGHBOUR: 'it returns false'. Refute it at one input. -/
def fnIlog2BracketsAndShiftsWrong : ChangeSpec := { name := "fnIlog2BracketsAndShifts", fn := fun _ => fun
  | [d1, d2] => { results := [.lit (.bool false)], args := [d1, d2] }
  | _ => none }
def FnIlog2BracketsAndShiftsWrongFalsely : Prop := fnIlog2BracketsAndShiftsRow.holds Try.pinned (OpenSpec.ofChange fnIlog2BracketsAndShiftsWrong)

end Rows
end Go.Proofs.Qxb6002359a
