/- The small doors to the model: ZZNewModel, ZZModelKeys, ZZModelValues, ZZModelOps. -/
import Derived.Test.Qxb6602268aLastS
namespace Go.Proofs.Qxb6602268a.M
open Go.ChangeShapes Go.WideShapes Go.ChangeAt Go.RowKit Go.Maps
set_option linter.unusedVariables false

/-- a model: its operations, its keys' table and its values' table -/
def modelF (ops : Value) (kb vb : Nat) (j : Nat) : Value := if j = 0 then ops else if j = 1 then .map (some kb) else if j = 2 then .map (some vb) else .int .i32 0

theorem newModel_any (w : World) (kb vb : Nat) :
    Calls Try.prog 22 #[.map (some kb), .map (some vb)] w (fun e w' => e = .returned (.pointer (some ⟨w.heap.size, 0, none⟩)) ∧ w'.rowIs w.heap.size 70 5 (modelF (.slice none 0 0) kb vb) ∧ Below w.heap.size w w') := by
  go_enter Try.func22, Try.ntmps22
  go_wp2_with fail
  go_ret
  refine ⟨rfl, ?_, (Below.refl _ _).alloc (Nat.le_refl _) _⟩
  exact World.rowIs_alloc w #[.slice none 0 0, .map (some kb), .map (some vb), .int .i32 0, .int .i32 0] 70 _ (fun i hi => by
    match i, hi with
    | 0, _ => rfl
    | 1, _ => rfl
    | 2, _ => rfl
    | 3, _ => rfl
    | 4, _ => rfl)

theorem modelKeys_any (w : World) (mb : Nat) (v : Value) (h : w.cell? ⟨mb, 1, none⟩ = some v) :
    Calls Try.prog 24 #[.pointer (some ⟨mb, 0, none⟩)] w (fun e w' => e = .returned v ∧ w' = w) := by
  go_enter Try.func24, Try.ntmps24
  go_wp2_with fail
  go_ret
  exact ⟨rfl, rfl⟩

theorem modelValues_any (w : World) (mb : Nat) (v : Value) (h : w.cell? ⟨mb, 2, none⟩ = some v) :
    Calls Try.prog 25 #[.pointer (some ⟨mb, 0, none⟩)] w (fun e w' => e = .returned v ∧ w' = w) := by
  go_enter Try.func25, Try.ntmps25
  go_wp2_with fail
  go_ret
  exact ⟨rfl, rfl⟩

theorem modelOps_any (w : World) (mb n c : Nat) (a : Option Addr) (h : w.cell? ⟨mb, 0, none⟩ = some (.slice a n c)) :
    Calls Try.prog 26 #[.pointer (some ⟨mb, 0, none⟩)] w (fun e w' => e = .returned (.int .i64 n) ∧ w' = w) := by
  go_enter Try.func26, Try.ntmps26
  go_wp2_with fail
  go_ret
  exact ⟨rfl, rfl⟩

end Go.Proofs.Qxb6602268a.M
