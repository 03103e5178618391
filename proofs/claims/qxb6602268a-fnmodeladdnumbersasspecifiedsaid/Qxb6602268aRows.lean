/-
  No cell of these rows narrows 'for every input' (looked for: loops, veiled, ifaces, maps, wideKeys, modest, calm, conditions, laid).
  DERIVED. THE GIVEN ROWS OF THIS SEAT. 4 by the template 'for every input the law returns true; each argument reads behind the call as it read before'; 0 by the template 'total and deterministic' (their statements: Qxb6602268aTotals.lean).
  GIVEN WITH THE SEED: the statements are not yours to turn. If you find one false, say at which input.
  Laid BY PROGRAM, IN A SANDBOX (cutbox-rows.mjs): the forced cells as the released guide's own fill.sh prints them over the translation b2a18054776899b1… (all of the seat's roots in one cut). By AI agents, Wed Nov 11 2026. No macro, syntax, notation, axiom, sorry.
-/
import Derived.Test.Qxb6602268aChecked
import GoSem.Claim
import GoSem.ClaimJoined
import GoSem.ClaimMapViews
import Derived.JoinedTies
import Derived.KernelRfl
namespace Go.Proofs.Qxb6602268a
/- THE CELL 'sum', in the pinned program and in every row, IS THE sha256 OF THE DUMP (.gsa) THAT Qxb6602268aProg.lean LOADS. Nothing in Lean hashes anything: it is a label: what it is worth is what the hold of that sum in a sandbox is worth. -/
noncomputable def Try.pinned : Pinned := { name := "qxb6602268a", sum := "b2a18054776899b13893df37d136eb699b1cf23219fb845b0ac0842cf773c4be", checked := Try.checked }
namespace Rows
def none {H : Type} : Left H := { results := [], args := [] }

/-- 'zzlaws_internal_history_b1.FnStepMatchesLastWriterWinsModel': WHATEVER THE INPUT: true; the input reads as it did. -/
def fnStepMatchesLastWriterWinsModelSpec : ChangeSpec := { name := "fnStepMatchesLastWriterWinsModel", fn := fun _ => fun
  | [d1, d2, d3, d4, d5, d6, d7, d8, d9, d10] => { results := [.lit (.bool true)], args := [d1, d2, d3, d4, d5, d6, d7, d8, d9, d10] }
  | _ => none }
def fnStepMatchesLastWriterWinsModelRow : OpenClaim := { program := "qxb6602268a", sum := "b2a18054776899b13893df37d136eb699b1cf23219fb845b0ac0842cf773c4be", func := "example.com/synodic/synodic/zzlaws_internal_history_b1.FnStepMatchesLastWriterWinsModel", spec := "fnStepMatchesLastWriterWinsModel", apart := false }
def FnStepMatchesLastWriterWinsModelSaid : Prop := fnStepMatchesLastWriterWinsModelRow.holds Try.pinned (OpenSpec.ofChange fnStepMatchesLastWriterWinsModelSpec)

/-- ITS FALSE NEIGHBOUR: 'it returns false'. Refute it at one input. -/
def fnStepMatchesLastWriterWinsModelWrong : ChangeSpec := { name := "fnStepMatchesLastWriterWinsModel", fn := fun _ => fun
  | [d1, d2, d3, d4, d5, d6, d7, d8, d9, d10] => { results := [.lit (.bool false)], args := [d1, d2, d3, d4, d5, d6, d7, d8, d9, d10] }
  | _ => none }
def FnStepMatchesLastWriterWinsModelWrongFalsely : Prop := fnStepMatchesLastWriterWinsModelRow.holds Try.pinned (OpenSpec.ofChange fnStepMatchesLastWriterWinsModelWrong)

/-- 'zzlaws_internal_history_b1.FnStepCopiesOnlyThePagesItWrites': WHATEVER THE INPUT: true; the input reads as it did. -/
def fnStepCopiesOnlyThePagesItWritesSpec : ChangeSpec := { name := "fnStepCopiesOnlyThePagesItWrites", fn := fun _ => fun
  | [d1, d2, d3, d4, d5, d6, d7, d8, d9, d10] => { results := [.lit (.bool true)], args := [d1, d2, d3, d4, d5, d6, d7, d8, d9, d10] }
  | _ => none }
def fnStepCopiesOnlyThePagesItWritesRow : OpenClaim := { program := "qxb6602268a", sum := "b2a18054776899b13893df37d136eb699b1cf23219fb845b0ac0842cf773c4be", func := "example.com/synodic/synodic/zzlaws_internal_history_b1.FnStepCopiesOnlyThePagesItWrites", spec := "fnStepCopiesOnlyThePagesItWrites", apart := false }
def FnStepCopiesOnlyThePagesItWritesSaid : Prop := fnStepCopiesOnlyThePagesItWritesRow.holds Try.pinned (OpenSpec.ofChange fnStepCopiesOnlyThePagesItWritesSpec)

/-- ITS FALSE NEIGHBOUR: 'it returns false'. Refute it at one input. -/
def fnStepCopiesOnlyThePagesItWritesWrong : ChangeSpec := { name := "fnStepCopiesOnlyThePagesItWrites", fn := fun _ => fun
  | [d1, d2, d3, d4, d5, d6, d7, d8, d9, d10] => { results := [.lit (.bool false)], args := [d1, d2, d3, d4, d5, d6, d7, d8, d9, d10] }
  | _ => none }
def FnStepCopiesOnlyThePagesItWritesWrongFalsely : Prop := fnStepCopiesOnlyThePagesItWritesRow.holds Try.pinned (OpenSpec.ofChange fnStepCopiesOnlyThePagesItWritesWrong)

/-- 'zzlaws_internal_history_b1.FnModelAddNumbersAsSpecified': WHATEVER THE INPUT: true; the input reads as it did. -/
def fnModelAddNumbersAsSpecifiedSpec : ChangeSpec := { name := "fnModelAddNumbersAsSpecified", fn := fun _ => fun
  | [d1, d2, d3, d4, d5, d6, d7, d8, d9, d10, d11, d12] => { results := [.lit (.bool true)], args := [d1, d2, d3, d4, d5, d6, d7, d8, d9, d10, d11, d12] }
  | _ => none }
def fnModelAddNumbersAsSpecifiedRow : OpenClaim := { program := "qxb6602268a", sum := "b2a18054776899b13893df37d136eb699b1cf23219fb845b0ac0842cf773c4be", func := "example.com/synodic/synodic/zzlaws_internal_history_b1.FnModelAddNumbersAsSpecified", spec := "fnModelAddNumbersAsSpecified", apart := false }
def FnModelAddNumbersAsSpecifiedSaid : Prop := fnModelAddNumbersAsSpecifiedRow.holds Try.pinned (OpenSpec.ofChange fnModelAddNumbersAsSpecifiedSpec)

/-- ITS FALSE NEIGHBOUR: 'it returns false'. Refute it at one input. -/
def fnModelAddNumbersAsSpecifiedWrong : ChangeSpec := { name := "fnModelAddNumbersAsSpecified", fn := fun _ => fun
  | [d1, d2, d3, d4, d5, d6, d7, d8, d9, d10, d11, d12] => { results := [.lit (.bool false)], args := [d1, d2, d3, d4, d5, d6, d7, d8, d9, d10, d11, d12] }
  | _ => none }
def FnModelAddNumbersAsSpecifiedWrongFalsely : Prop := fnModelAddNumbersAsSpecifiedRow.holds Try.pinned (OpenSpec.ofChange fnModelAddNumbersAsSpecifiedWrong)

/-- 'zzlaws_internal_history_b1.FnModelAddSecondTimeNumbersNothingNew': WHATEVER THE INPUT: true; the input reads as it did. -/
def fnModelAddSecondTimeNumbersNothingNewSpec : ChangeSpec := { name := "fnModelAddSecondTimeNumbersNothingNew", fn := fun _ => fun
  | [d1, d2, d3, d4, d5, d6, d7, d8] => { results := [.lit (.bool true)], args := [d1, d2, d3, d4, d5, d6, d7, d8] }
  | _ => none }
def fnModelAddSecondTimeNumbersNothingNewRow : OpenClaim := { program := "qxb6602268a", sum := "b2a18054776899b13893df37d136eb699b1cf23219fb845b0ac0842cf773c4be", func := "example.com/synodic/synodic/zzlaws_internal_history_b1.FnModelAddSecondTimeNumbersNothingNew", spec := "fnModelAddSecondTimeNumbersNothingNew", apart := false }
def FnModelAddSecondTimeNumbersNothingNewSaid : Prop := fnModelAddSecondTimeNumbersNothingNewRow.holds Try.pinned (OpenSpec.ofChange fnModelAddSecondTimeNumbersNothingNewSpec)

/-- ITS FALSE NEIGHBOUR: 'it returns false'. Refute it at one input. -/
def fnModelAddSecondTimeNumbersNothingNewWrong : ChangeSpec := { name := "fnModelAddSecondTimeNumbersNothingNew", fn := fun _ => fun
  | [d1, d2, d3, d4, d5, d6, d7, d8] => { results := [.lit (.bool false)], args := [d1, d2, d3, d4, d5, d6, d7, d8] }
  | _ => none }
def FnModelAddSecondTimeNumbersNothingNewWrongFalsely : Prop := fnModelAddSecondTimeNumbersNothingNewRow.holds Try.pinned (OpenSpec.ofChange fnModelAddSecondTimeNumbersNothingNewWrong)

end Rows
end Go.Proofs.Qxb6602268a
