/- The arguments of the laws over step, opened. -/
import Derived.Test.Qxb6602268aMem
import Derived.OpenShut
import Derived.ChangeOld
import Derived.Below
import Derived.Deep.Matrix
namespace Go.Proofs.Qxb6602268a.M
open Go.ChangeShapes Go.WideShapes Go.ChangeAt Go.RowKit
set_option linter.unusedVariables false

theorem at_add {α : Type} {w : World} {a : Addr} {n : Nat} {f : Nat → Value} (h : ∀ i, i < n → w.cell? (a.add i) = some (f i)) (h0 : 0 < n) :
    ∃ b o, a = ⟨b, o, none⟩ ∧ ∀ i, i < n → w.cell? ⟨b, o + i, none⟩ = some (f i) := by
  obtain ⟨b, off, spot⟩ := a
  have hspot : spot = none := by simpa [Addr.add] using World.cell?_spot (h 0 h0)
  subst hspot
  exact ⟨b, off, rfl, fun j hj => by rw [← Go.WideShapes.add_plain]; exact h j hj⟩

theorem wf_i32 {z : Int} (h : (Lit.int .i32 z).wf = true) : -2147483648 ≤ z ∧ z ≤ 2147483647 := bounds_i32 h

section
variable {H : Type} {enc : TypeId × Value → H} {W : World}

/-- A slice of int32 that came in. -/
theorem open24 {a : Option Addr} {n c : Nat} {d : DataW H} {p : List MemPlace} (h : DataW.Trod enc Try.prog W 0 (fun _ => true) true 24 (.slice a n c) d p) :
    ∃ Z : Nat → Int, Ints W a n Z ∧ n ≤ c ∧ n ≤ maxLen ∧ ∀ i, i < n → -2147483648 ≤ Z i ∧ Z i ≤ 2147483647 := by
  obtain ⟨fuel, hf⟩ := h
  rcases open_ints Try.underlying24 Try.underlying21 (by kernel_rfl) hf with ⟨hcs, _⟩ | ⟨x, l, c', zs, hcs, _, hl, hm, hz, _, hcell, hwz⟩
  · simp [Value.cells] at hcs
    obtain ⟨rfl, rfl, rfl⟩ := hcs
    exact ⟨fun _ => 0, fun h => by omega, Nat.le_refl _, Nat.zero_le _, fun i hi => by omega⟩
  · simp [Value.cells] at hcs
    obtain ⟨rfl, rfl, rfl⟩ := hcs
    have hz' : zs.length = c := by simpa using hz
    refine ⟨fun i => zs.getD i 0, fun h0 => ?_, hl, Nat.le_trans hl hm, fun i hi => ?_⟩
    · obtain ⟨b, o, e, hc⟩ := at_add (α := Unit) (f := fun i => .int .i32 (zs.getD i 0)) (n := n) (fun i hi => hcell i (by omega)) h0
      exact ⟨b, o, by rw [e], hc⟩
    · have hmem : zs.getD i 0 ∈ zs := by
        rw [List.getD_eq_getElem?_getD, List.getElem?_eq_getElem (by omega)]
        exact List.getElem_mem _
      exact wf_i32 (hwz _ hmem)

/-- A slice of slices of int32 that came in. -/
theorem open22 {a : Option Addr} {n c : Nat} {d : DataW H} {p : List MemPlace} (h : DataW.Trod enc Try.prog W 0 (fun _ => true) true 22 (.slice a n c) d p) :
    ∃ (A : Nat → Option Addr) (L C : Nat → Nat) (Z : Nat → Nat → Int), Pages W a n A L C Z ∧ n ≤ maxLen ∧ (∀ r, r < n → L r ≤ maxLen) ∧ ∀ r, r < n → ∀ i, i < L r → -2147483648 ≤ Z r i ∧ Z r i ≤ 2147483647 := by
  obtain ⟨fuel, hf⟩ := h
  rcases Deep.open_int_rows Try.underlying22 Try.underlying24 Try.underlying21 (by kernel_rfl) (by kernel_rfl) hf with ⟨hcs, _⟩ | ⟨x, l, c', A, L, C, Z, hcs, _, hl, hm, _, hrow⟩
  · simp [Value.cells] at hcs
    obtain ⟨rfl, rfl, rfl⟩ := hcs
    exact ⟨fun _ => none, fun _ => 0, fun _ => 0, fun _ _ => 0, ⟨fun h => by omega, fun r hr => by omega⟩, Nat.zero_le _, fun r hr => by omega, fun r hr => by omega⟩
  · simp [Value.cells] at hcs
    obtain ⟨rfl, rfl, rfl⟩ := hcs
    refine ⟨A, L, C, fun r i => (Z r).getD i 0, ⟨fun h0 => ?_, fun r hr h0 => ?_⟩, Nat.le_trans hl hm, fun r hr => ?_, fun r hr i hi => ?_⟩
    · obtain ⟨b, o, e, hc⟩ := at_add (α := Unit) (f := fun r => .slice (A r) (L r) (C r)) (n := n) (fun i hi => (hrow i (by omega)).1) h0
      exact ⟨b, o, by rw [e], hc⟩
    · obtain ⟨_, h1, h2, h3, h4, h5, h6⟩ := hrow r (by omega)
      cases hA : A r with
      | none => have := h5 hA; omega
      | some y =>
        obtain ⟨b, o, e, hc⟩ := at_add (α := Unit) (f := fun i => .int .i32 ((Z r).getD i 0)) (n := L r) (fun i hi => (h6 y hA).2 i (by omega)) h0
        exact ⟨b, o, by rw [e], hc⟩
    · obtain ⟨_, h1, h2, _⟩ := hrow r (by omega); omega
    · obtain ⟨_, h1, h2, h3, h4, h5, h6⟩ := hrow r (by omega)
      have hmem : (Z r).getD i 0 ∈ Z r := by
        rw [List.getD_eq_getElem?_getD, List.getElem?_eq_getElem (by omega)]
        exact List.getElem_mem _
      exact wf_i32 (h4 _ hmem)
end

end Go.Proofs.Qxb6602268a.M
