/-
  No cell of these rows narrows 'for every input' (looked for: loops, veiled, ifaces, maps, wideKeys, modest, calm, conditions, laid).
  DERIVED. THE GIVEN ROWS OF THIS SEAT. 5 by the template 'for every input the law returns true; each argument reads behind the call as it read before'; 0 by the template 'total and deterministic' (their statements: Qxb6602243aTotals.lean).
  GIVEN WITH THE SEED: the statements are not yours to turn. If you find one false, say at which input.
  Laid BY PROGRAM, IN A SANDBOX (cutbox-rows.mjs): the forced cells as the released guide's own fill.sh prints them over the translation 600f4f319262bb1b… (all of the seat's roots in one cut). By AI agents, Wed Nov 11 2026. No macro, syntax, notation, axiom, sorry.
-/
import Derived.Test.Qxb6602243aChecked
import GoSem.Claim
import GoSem.ClaimJoined
import GoSem.ClaimMapViews
import Derived.JoinedTies
import Derived.KernelRfl
namespace Go.Proofs.Qxb6602243a
/- THE CELL 'sum', in the pinned program and in every row, IS THE sha256 OF THE DUMP (.gsa) THAT Qxb6602243aProg.lean LOADS. Nothing in Lean hashes anything: it is a label: what it is worth is what the hold of that sum in a sandbox is worth. -/
noncomputable def Try.pinned : Pinned := { name := "qxb6602243a", sum := "600f4f319262bb1b53cff18fdb6e403466f6ce4b3b79fc340c60bf414c2df66c", checked := Try.checked }
namespace Rows
def none {H : Type} : Left H := { results := [], args := [] }

/-- 'zzlaws_nav_b1.FnCoefficientMatchesPositionalValue': WHATEVER THE INPUT: true; the input reads as it did. -/
def fnCoefficientMatchesPositionalValueSpec : ChangeSpec := { name := "fnCoefficientMatchesPositionalValue", fn := fun _ => fun
  | [d1, d2, d3] => { results := [.lit (.bool true)], args := [d1, d2, d3] }
  | _ => none }
def fnCoefficientMatchesPositionalValueRow : OpenClaim := { program := "qxb6602243a", sum := "600f4f319262bb1b53cff18fdb6e403466f6ce4b3b79fc340c60bf414c2df66c", func := "example.com/tuoguan/tuoguan/zzlaws_nav_b1.FnCoefficientMatchesPositionalValue", spec := "fnCoefficientMatchesPositionalValue", apart := false }
def FnCoefficientMatchesPositionalValueSaid : Prop := fnCoefficientMatchesPositionalValueRow.holds Try.pinned (OpenSpec.ofChange fnCoefficientMatchesPositionalValueSpec)

/-- ITS FALSE NEIGHBOUR: 'it returns false'. Refute it at one input. -/
def fnCoefficientMatchesPositionalValueWrong : ChangeSpec := { name := "fnCoefficientMatchesPositionalValue", fn := fun _ => fun
  | [d1, d2, d3] => { results := [.lit (.bool false)], args := [d1, d2, d3] }
  | _ => none }
def FnCoefficientMatchesPositionalValueWrongFalsely : Prop := fnCoefficientMatchesPositionalValueRow.holds Try.pinned (OpenSpec.ofChange fnCoefficientMatchesPositionalValueWrong)

/-- 'zzlaws_nav_b1.FnCoefficientRendersBackToItsDigits': WHATEVER THE INPUT: true; the input reads as it did. -/
def fnCoefficientRendersBackToItsDigitsSpec : ChangeSpec := { name := "fnCoefficientRendersBackToItsDigits", fn := fun _ => fun
  | [d1, d2, d3] => { results := [.lit (.bool true)], args := [d1, d2, d3] }
  | _ => none }
def fnCoefficientRendersBackToItsDigitsRow : OpenClaim := { program := "qxb6602243a", sum := "600f4f319262bb1b53cff18fdb6e403466f6ce4b3b79fc340c60bf414c2df66c", func := "example.com/tuoguan/tuoguan/zzlaws_nav_b1.FnCoefficientRendersBackToItsDigits", spec := "fnCoefficientRendersBackToItsDigits", apart := false }
def FnCoefficientRendersBackToItsDigitsSaid : Prop := fnCoefficientRendersBackToItsDigitsRow.holds Try.pinned (OpenSpec.ofChange fnCoefficientRendersBackToItsDigitsSpec)

/-- ITS FALSE NEIGHBOUR: 'it returns false'. Refute it at one input. -/
def fnCoefficientRendersBackToItsDigitsWrong : ChangeSpec := { name := "fnCoefficientRendersBackToItsDigits", fn := fun _ => fun
  | [d1, d2, d3] => { results := [.lit (.bool false)], args := [d1, d2, d3] }
  | _ => none }
def FnCoefficientRendersBackToItsDigitsWrongFalsely : Prop := fnCoefficientRendersBackToItsDigitsRow.holds Try.pinned (OpenSpec.ofChange fnCoefficientRendersBackToItsDigitsWrong)

/-- 'zzlaws_nav_b1.FnCoefficientIgnoresWhereThePointStands': WHATEVER THE INPUT: true; the input reads as it did. -/
def fnCoefficientIgnoresWhereThePointStandsSpec : ChangeSpec := { name := "fnCoefficientIgnoresWhereThePointStands", fn := fun _ => fun
  | [d1, d2, d3] => { results := [.lit (.bool true)], args := [d1, d2, d3] }
  | _ => none }
def fnCoefficientIgnoresWhereThePointStandsRow : OpenClaim := { program := "qxb6602243a", sum := "600f4f319262bb1b53cff18fdb6e403466f6ce4b3b79fc340c60bf414c2df66c", func := "example.com/tuoguan/tuoguan/zzlaws_nav_b1.FnCoefficientIgnoresWhereThePointStands", spec := "fnCoefficientIgnoresWhereThePointStands", apart := false }
def FnCoefficientIgnoresWhereThePointStandsSaid : Prop := fnCoefficientIgnoresWhereThePointStandsRow.holds Try.pinned (OpenSpec.ofChange fnCoefficientIgnoresWhereThePointStandsSpec)

/-- ITS FALSE NEIGHBOUR: 'it returns false'. Refute it at one input. -/
def fnCoefficientIgnoresWhereThePointStandsWrong : ChangeSpec := { name := "fnCoefficientIgnoresWhereThePointStands", fn := fun _ => fun
  | [d1, d2, d3] => { results := [.lit (.bool false)], args := [d1, d2, d3] }
  | _ => none }
def FnCoefficientIgnoresWhereThePointStandsWrongFalsely : Prop := fnCoefficientIgnoresWhereThePointStandsRow.holds Try.pinned (OpenSpec.ofChange fnCoefficientIgnoresWhereThePointStandsWrong)

/-- 'zzlaws_nav_b1.FnAllDigitsMatchesCaseTable': WHATEVER THE INPUT: true; the input reads as it did. -/
def fnAllDigitsMatchesCaseTableSpec : ChangeSpec := { name := "fnAllDigitsMatchesCaseTable", fn := fun _ => fun
  | [d] => { results := [.lit (.bool true)], args := [d] }
  | _ => none }
def fnAllDigitsMatchesCaseTableRow : OpenClaim := { program := "qxb6602243a", sum := "600f4f319262bb1b53cff18fdb6e403466f6ce4b3b79fc340c60bf414c2df66c", func := "example.com/tuoguan/tuoguan/zzlaws_nav_b1.FnAllDigitsMatchesCaseTable", spec := "fnAllDigitsMatchesCaseTable", apart := false }
def FnAllDigitsMatchesCaseTableSaid : Prop := fnAllDigitsMatchesCaseTableRow.holds Try.pinned (OpenSpec.ofChange fnAllDigitsMatchesCaseTableSpec)

/-- ITS FALSE NEIGHBOUR: 'it returns false'. Refute it at one input. -/
def fnAllDigitsMatchesCaseTableWrong : ChangeSpec := { name := "fnAllDigitsMatchesCaseTable", fn := fun _ => fun
  | [d] => { results := [.lit (.bool false)], args := [d] }
  | _ => none }
def FnAllDigitsMatchesCaseTableWrongFalsely : Prop := fnAllDigitsMatchesCaseTableRow.holds Try.pinned (OpenSpec.ofChange fnAllDigitsMatchesCaseTableWrong)

/-- 'zzlaws_nav_b1.FnAllDigitsSplitsOverConcatenation': WHATEVER THE INPUT: true; the input reads as it did. -/
def fnAllDigitsSplitsOverConcatenationSpec : ChangeSpec := { name := "fnAllDigitsSplitsOverConcatenation", fn := fun _ => fun
  | [d1, d2] => { results := [.lit (.bool true)], args := [d1, d2] }
  | _ => none }
def fnAllDigitsSplitsOverConcatenationRow : OpenClaim := { program := "qxb6602243a", sum := "600f4f319262bb1b53cff18fdb6e403466f6ce4b3b79fc340c60bf414c2df66c", func := "example.com/tuoguan/tuoguan/zzlaws_nav_b1.FnAllDigitsSplitsOverConcatenation", spec := "fnAllDigitsSplitsOverConcatenation", apart := false }
def FnAllDigitsSplitsOverConcatenationSaid : Prop := fnAllDigitsSplitsOverConcatenationRow.holds Try.pinned (OpenSpec.ofChange fnAllDigitsSplitsOverConcatenationSpec)

/-- ITS FALSE NEIGHBOUR: 'it returns false'. Refute it at one input. -/
def fnAllDigitsSplitsOverConcatenationWrong : ChangeSpec := { name := "fnAllDigitsSplitsOverConcatenation", fn := fun _ => fun
  | [d1, d2] => { results := [.lit (.bool false)], args := [d1, d2] }
  | _ => none }
def FnAllDigitsSplitsOverConcatenationWrongFalsely : Prop := fnAllDigitsSplitsOverConcatenationRow.holds Try.pinned (OpenSpec.ofChange fnAllDigitsSplitsOverConcatenationWrong)

end Rows
end Go.Proofs.Qxb6602243a
