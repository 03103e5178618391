/- 'copy' of a slice of int32 into a row that the call has just made. -/
import Derived.Test.Qxb6602268aZZStep
import Derived.Laws.CopyOwn
namespace Go.Proofs.Qxb6602268a.M
open Go.ChangeShapes Go.WideShapes Go.ChangeAt Go.RowKit
set_option linter.unusedVariables false

theorem addr_add (b o j : Nat) : (⟨b, o, none⟩ : Addr).add j = ⟨b, o + j, none⟩ := by
  unfold Addr.add
  by_cases e0 : j = 0
  · subst e0; rfl
  · rw [if_neg e0]

theorem size21 : (Try.prog.info? 21).map (·.size) = some 1 := by kernel_rfl

theorem run_copy_ints {w : World} {g n c : Nat} {sp : Option Addr} {f : Nat → Value} {Z : Nat → Int} (hr : w.rowIs g 21 n f) (hi : Ints w sp n Z) {B : Nat} {w0 : World} (hb : Below B w0 w) (hBg : B ≤ g) :
    ∃ w2, (Builtin.copy_ #[24, 24] 3 #[.slice (some ⟨g, 0, none⟩) n n, .slice sp n c]).run Try.prog w = .ok (.int .i64 (n : Int)) w2 ∧ Ints w2 (some ⟨g, 0, none⟩) n Z ∧ Below B w0 w2 := by
  by_cases h0 : n = 0
  · subst h0
    exact ⟨w, run_copy_none w 24 24 3 21 _ sp 0 0 0 c Try.underlying24 size21 rfl, fun h => by omega, hb⟩
  · obtain ⟨b, o, rfl, hcell⟩ := hi (by omega)
    obtain ⟨cur, hg, hc, _⟩ := hr
    have hl : ((List.range n).map fun i => (.int .i32 (Z i) : Value)).length = n := by simp
    have hrun := run_copy_row (P := Try.prog) w 24 24 3 21 g 0 n n ⟨b, o, none⟩ n c cur 21 ((List.range n).map fun i => .int .i32 (Z i)) Try.underlying24 size21 hg (by rw [hl]; exact (Nat.min_self n).symm)
      (fun j v hj => by
        by_cases hjn : j < n
        · rw [map_get n _ j hjn] at hj
          cases hj
          rw [addr_add]
          exact hcell j hjn
        · rw [List.getElem?_eq_none (by simpa using hjn)] at hj; cases hj)
      (by rw [hl]; omega) (fun v hv => by obtain ⟨x, _, rfl⟩ := List.mem_map.1 hv; rfl)
    rw [hl] at hrun
    refine ⟨_, hrun, fun _ => ⟨g, 0, rfl, fun i hi => ?_⟩, below_setRow hb hBg _⟩
    have e3 : cur.toList.drop n = [] := List.drop_of_length_le (by simp [hc])
    rw [Nat.zero_add i, Nat.zero_add n, e3]
    have e := setRow_heap w g cur (cur.toList.take 0 ++ (List.range n).map (fun i => (.int .i32 (Z i) : Value)) ++ []).toArray 21 (0, 0) hg
    simp only [World.cell?, e]
    simp [hi]

end Go.Proofs.Qxb6602268a.M
