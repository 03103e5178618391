/- number: the walk, and what it does to a numbering. -/
import Derived.Test.Qxb6602268aUnp
namespace Go.Proofs.Qxb6602268a.M
open Go.ChangeShapes Go.WideShapes Go.ChangeAt Go.RowKit Go.Maps
set_option linter.unusedVariables false

/-- a numbering as a table of values -/
def IT (F : ByteArray → Option Int) : ByteArray → Option Value := fun x => (F x).map (Value.int .i32)
theorem IT_upd (F : ByteArray → Option Int) (x : ByteArray) (v : Int) : IT (upd F x v) = upd (IT F) x (.int .i32 v) := by
  funext y
  unfold IT
  by_cases e : y = x
  · subst e; rw [upd_same, upd_same]; rfl
  · rw [upd_other _ _ e, upd_other _ _ e]

/-- the number that x gets -/
def numV (F : ByteArray → Option Int) (sz : Nat) (fs : Nat) (x : ByteArray) : Int := (F x).getD ((fs : Int) + sz)
/-- the numbering behind it -/
noncomputable def numF (F : ByteArray → Option Int) (sz : Nat) (fs : Nat) (x : ByteArray) : ByteArray → Option Int := match F x with
  | some _ => F
  | none => upd F x ((fs : Int) + sz)
def numS (F : ByteArray → Option Int) (sz : Nat) (x : ByteArray) : Nat := if (F x).isSome then sz else sz + 1

theorem number_any (w : World) (b sz fs : Nat) (s : ByteArray) (F : ByteArray → Option Int) (hsz : sz ≤ 4194304) (hfs : fs ≤ 1) (hs : s.size ≤ maxLen) (hT : Tab 9 slit w b (IT F) sz) :
    Calls Try.prog 52 #[.map (some b), .string s, .int .i32 fs] w (fun e w' => e = .returned (.int .i32 (numV F sz fs s)) ∧ Tab 9 slit w' b (IT (numF F sz fs s)) (numS F sz s) ∧ w.grownBy w' (some b)) := by
  have hl := hT.look_ok strKind Try.underlying44 (zero21' _) hs
  have hln : ∀ ty, _ := fun ty => hT.len Try.underlying44 ty
  cases hF : F s with
  | some z =>
    have e : IT F s = some (.int .i32 z) := by unfold IT; rw [hF]; rfl
    rw [e] at hl
    simp only [Option.getD_some, Option.isSome_some] at hl
    have HT : Hid (Tab 9 slit w b (IT F) sz) := hT
    have e1 : numV F sz fs s = z := by unfold numV; rw [hF]; rfl
    have e2 : numF F sz fs s = F := by unfold numF; rw [hF]
    have e3 : numS F sz s = sz := by unfold numS; rw [hF]; rfl
    rw [e1, e2, e3]
    clear e hF hT e1 e2 e3
    go_enter Try.func52, Try.ntmps52
    go_wp2_with fail
    go_ret
    exact ⟨rfl, HT.out, World.grownBy.refl _ _⟩
  | none =>
    have e : IT F s = none := by unfold IT; rw [hF]; rfl
    rw [e] at hl
    simp only [Option.getD_none, Option.isSome_none] at hl
    have HT : Hid (Tab 9 slit w b (IT F) sz) := hT
    have e1 : numV F sz fs s = (fs : Int) + sz := by unfold numV; rw [hF]; rfl
    have e2 : IT (numF F sz fs s) = upd (IT F) s (.int .i32 ((fs : Int) + sz)) := by unfold numF; rw [hF]; exact IT_upd F s _
    have e3 : numS F sz s = sz + 1 := by unfold numS; rw [hF]; rfl
    rw [e1, e2, e3]
    have HE : Hid (IT F s = none) := e
    clear e hF hT e1 e2 e3
    go_enter Try.func52, Try.ntmps52
    go_wp2_with (at_mapUpdate; refine wp_tab_put strKind Try.underlying44 rfl _ _ _ rfl HT.out (by unfold maxLen; omega) rfl s rfl hs (.int .i32 ((fs : Int) + sz)) rfl ?_; intro w2 hT2 ht2)
    go_ret
    rw [HE.out] at hT2
    exact ⟨rfl, hT2, ht2.grown⟩

end Go.Proofs.Qxb6602268a.M
