/- How slices of numbers and slices of such slices lie in memory; what stays. -/
import Derived.Test.Qxb6602268aRows
import Derived.WalkKit
import Derived.ProofKit
import Derived.WalkSpells
import Derived.Deep.OwnRows
import Derived.Deep.QuietTactic
import Derived.BigQuiet
namespace Go.Proofs.Qxb6602268a.M
open Go.ChangeShapes Go.WideShapes Go.ChangeAt Go.RowKit

/-- The slice at 'a' of n elements reads Z 0 .. Z (n - 1). -/
def Ints (w : World) (a : Option Addr) (n : Nat) (Z : Nat → Int) : Prop :=
  0 < n → ∃ b o, a = some ⟨b, o, none⟩ ∧ ∀ i, i < n → w.cell? ⟨b, o + i, none⟩ = some (.int .i32 (Z i))

/-- The slice at 'a' of n rows: row r is the slice (A r, L r, C r) and reads Z r. -/
structure Pages (w : World) (a : Option Addr) (n : Nat) (A : Nat → Option Addr) (L C : Nat → Nat) (Z : Nat → Nat → Int) : Prop where
  top : 0 < n → ∃ b o, a = some ⟨b, o, none⟩ ∧ ∀ r, r < n → w.cell? ⟨b, o + r, none⟩ = some (.slice (A r) (L r) (C r))
  row : ∀ r, r < n → Ints w (A r) (L r) (Z r)

theorem lt_of_cell {w : World} {a : Addr} {v : Value} (h : w.cell? a = some v) : a.block < w.heap.size := by
  by_cases hlt : a.block < w.heap.size
  · exact hlt
  · exfalso
    have : w.heap[a.block]? = none := Array.getElem?_eq_none (by omega)
    simp [World.cell?, this] at h

theorem Ints.below {w w' : World} {a : Option Addr} {n : Nat} {Z : Nat → Int} (h : Ints w a n Z) (hb : Below w.heap.size w w') : Ints w' a n Z := by
  intro h0
  obtain ⟨b, o, ha, hc⟩ := h h0
  exact ⟨b, o, ha, fun i hi => (hb.cell (lt_of_cell (hc i hi))).trans (hc i hi)⟩

theorem Pages.below {w w' : World} {a : Option Addr} {n : Nat} {A : Nat → Option Addr} {L C : Nat → Nat} {Z : Nat → Nat → Int} (h : Pages w a n A L C Z) (hb : Below w.heap.size w w') : Pages w' a n A L C Z := by
  refine ⟨fun h0 => ?_, fun r hr => (h.row r hr).below hb⟩
  obtain ⟨b, o, ha, hc⟩ := h.top h0
  exact ⟨b, o, ha, fun i hi => (hb.cell (lt_of_cell (hc i hi))).trans (hc i hi)⟩

theorem Ints.drewN {w : World} {a : Option Addr} {n : Nat} {Z : Nat → Int} (h : Ints w a n Z) (q : Nat) : Ints (w.drewN q) a n Z := h
theorem Pages.drewN {w : World} {a : Option Addr} {n : Nat} {A : Nat → Option Addr} {L C : Nat → Nat} {Z : Nat → Nat → Int} (h : Pages w a n A L C Z) (q : Nat) : Pages (w.drewN q) a n A L C Z := ⟨h.top, h.row⟩

end Go.Proofs.Qxb6602268a.M
