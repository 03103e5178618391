/- math/big: Int.SetBytes, Int.Neg at z = x, Rat.SetInt. -/
import Derived.Test.Qxb6002359aBig6
namespace Go.Proofs.Qxb6002359a.B
open Go.RowKit Go.ChangeShapes Go.WideShapes Go.ChangeAt
set_option linter.unusedVariables false
set_option linter.unusedSimpArgs false

/-- a block of plain cells -/
def Plain (w : World) (b : Nat) : Prop := ∃ cz tz, w.heap[b]? = some (.cells cz tz (0, 0))
/-- all blocks that were there, but one, are as they were -/
structure Kept (z : Nat) (w w' : World) : Prop where
  os : w'.os = w.os
  tape : w'.tape = w.tape
  output : w'.output = w.output
  size : w.heap.size ≤ w'.heap.size
  block : ∀ i, i < w.heap.size → i ≠ z → w'.heap[i]? = w.heap[i]?
  plain : Plain w z → Plain w' z
theorem Plain.lt {w : World} {b : Nat} (h : Plain w b) : b < w.heap.size := by
  obtain ⟨cz, tz, e⟩ := h
  rcases Nat.lt_or_ge b w.heap.size with h | h
  · exact h
  · rw [Array.getElem?_eq_none h] at e; cases e
theorem Plain.frozen {w : World} {b : Nat} (h : Plain w b) (i : Nat) : w.frozen? ⟨b, i, none⟩ = false := by
  obtain ⟨cz, tz, e⟩ := h
  simp [World.frozen?, e]
theorem Plain.below {w w' : World} {b : Nat} (h : Plain w b) (k : Below w.heap.size w w') : Plain w' b := by
  obtain ⟨cz, tz, e⟩ := h
  exact ⟨cz, tz, (k.block b (Plain.lt ⟨cz, tz, e⟩)).trans e⟩
theorem Plain.kept {w w' : World} {b z : Nat} (h : Plain w b) (k : Kept z w w') : Plain w' b := by
  by_cases e : b = z
  · subst e; exact k.plain h
  · obtain ⟨cz, tz, e'⟩ := h
    exact ⟨cz, tz, (k.block b (Plain.lt ⟨cz, tz, e'⟩) e).trans e'⟩
theorem Plain.setCell {w : World} {b : Nat} (h : Plain w b) (p : Addr) (v : Value) : Plain (w.setCell p v) b := by
  obtain ⟨cz, tz, e⟩ := h
  by_cases hp : b = p.block
  · subst hp
    unfold Plain World.setCell
    simp only [Array.getElem?_modify, if_pos, e, Option.map_some]
    exact ⟨_, _, rfl⟩
  · exact ⟨cz, tz, by rw [Below.heap_setCell _ _ _ _ (by omega)]; exact e⟩
theorem Kept.refl (z : Nat) (w : World) : Kept z w w := ⟨rfl, rfl, rfl, Nat.le_refl _, fun _ _ _ => rfl, id⟩
theorem Kept.trans {z : Nat} {w w1 w2 : World} (h : Kept z w w1) (k : Kept z w1 w2) : Kept z w w2 :=
  ⟨k.os.trans h.os, k.tape.trans h.tape, k.output.trans h.output, Nat.le_trans h.size k.size, fun i hi hz => (k.block i (Nat.lt_of_lt_of_le hi h.size) hz).trans (h.block i hi hz), fun h' => k.plain (h.plain h')⟩
theorem Kept.of_below {z : Nat} {w w' : World} (h : Below w.heap.size w w') : Kept z w w' :=
  ⟨h.os, h.tape, h.output, h.size, fun i hi _ => h.block i hi, fun hp => hp.below h⟩
theorem Kept.setCell (z : Nat) (o : Nat) (v : Value) (w : World) : Kept z w (w.setCell ⟨z, o, none⟩ v) :=
  ⟨rfl, rfl, rfl, by simp [World.setCell], fun i hi hz => Below.heap_setCell _ _ _ _ (by exact hz), fun hp => hp.setCell _ _⟩
theorem Kept.cell {z : Nat} {w w' : World} (h : Kept z w w') {b o : Nat} {v : Value} (hc : w.cell? ⟨b, o, none⟩ = some v) (hz : b ≠ z) : w'.cell? ⟨b, o, none⟩ = some v :=
  (World.cell?_of_block (h.block b (lt_of_cell hc) hz)).trans hc
theorem Kept.wds {z : Nat} {w w' : World} (h : Kept z w w') {g n : Nat} {W : Nat → Nat} (hw : Wds w (some ⟨g, 0, none⟩) n W) (hz : g ≠ z) : Wds w' (some ⟨g, 0, none⟩) n W := by
  intro h0
  obtain ⟨b, ha, hc⟩ := hw h0
  cases ha
  exact ⟨_, rfl, fun i hi => h.cell (hc i hi) hz⟩
theorem Kept.below {z B : Nat} {w0 w w' : World} (h : Kept z w w') (hB : B ≤ z) (hb : Below B w0 w) (hBw : B ≤ w0.heap.size) : Below B w0 w' :=
  ⟨h.os.trans hb.os, h.tape.trans hb.tape, h.output.trans hb.output, Nat.le_trans hb.size h.size, fun i hi => (h.block i (Nat.lt_of_lt_of_le (Nat.lt_of_lt_of_le hi hBw) hb.size) (by omega)).trans (hb.block i hi)⟩
theorem Kept.drewN {z : Nat} {w w' : World} (h : Kept z w w') (q : Nat) : Kept z w (w'.drewN q) := ⟨h.os, h.tape, h.output, h.size, h.block, h.plain⟩
theorem Kept.put2 {z o : Nat} {w w' : World} (h : Kept z w w') (v : Value) (b : Bool) : Kept z w (put2 w' z o v b) :=
  (h.trans (Kept.setCell z _ _ _)).trans (Kept.setCell z _ _ _)
theorem put2_0 {w : World} {z o : Nat} {v v0 : Value} {b : Bool} (h : w.cell? ⟨z, o, none⟩ = some v0) : (put2 w z o v b).cell? ⟨z, o, none⟩ = some (.bool b) := by
  unfold put2
  refine World.cell?_setCell_same _ _ _ (u := v0) ?_
  rw [World.cell?_setCell_other _ _ _ _ (by simp)]
  exact h
theorem put2_1 {w : World} {z o : Nat} {v v0 : Value} {b : Bool} (h : w.cell? ⟨z, o + 1, none⟩ = some v0) : (put2 w z o v b).cell? ⟨z, o + 1, none⟩ = some v := by
  unfold put2
  rw [World.cell?_setCell_other _ _ _ _ (by simp)]
  exact World.cell?_setCell_same _ _ _ h

/-- an Int's two cells -/
def IntAt (w : World) (b o : Nat) (neg : Bool) (a : Option Addr) (n c : Nat) : Prop := w.cell? ⟨b, o, none⟩ = some (.bool neg) ∧ w.cell? ⟨b, o + 1, none⟩ = some (.slice a n c)
theorem IntAt.kept {z : Nat} {w w' : World} {b o : Nat} {neg : Bool} {a : Option Addr} {n c : Nat} (h : IntAt w b o neg a n c) (k : Kept z w w') (hz : b ≠ z) : IntAt w' b o neg a n c := ⟨k.cell h.1 hz, k.cell h.2 hz⟩
theorem IntAt.below {w w' : World} {b o : Nat} {neg : Bool} {a : Option Addr} {n c : Nat} (h : IntAt w b o neg a n c) (k : Below w.heap.size w w') : IntAt w' b o neg a n c := ⟨(k.cell (lt_of_cell h.1)).trans h.1, (k.cell (lt_of_cell h.2)).trans h.2⟩
theorem IntAt.put {w : World} {b o : Nat} {neg neg' : Bool} {a a' : Option Addr} {n c n' c' : Nat} (h : IntAt w b o neg a n c) : IntAt (put2 w b o (.slice a' n' c') neg') b o neg' a' n' c' := ⟨put2_0 h.1, put2_1 h.2⟩

def RetInt (w w' : World) (e : Ending) (zb zo m : Nat) (W : Nat → Nat) : Prop :=
  ∃ (k c : Nat), e = .returned (.pointer (some ⟨zb, zo, none⟩)) ∧ Cut m k W ∧ m ≤ c ∧ Wds w' (some ⟨w.heap.size, 0, none⟩) m W ∧ IntAt w' zb zo false (some ⟨w.heap.size, 0, none⟩) k c ∧ Kept zb w w'

set_option maxRecDepth 100000 in
/-- (*Int).SetBytes, the receiver's number nil -/
theorem intSetBytes_new (w : World) (zb zo b o n c : Nat) (zn : Bool) (Z : Nat → Nat) (h1 : 1 ≤ n) (hn : n ≤ 8192) (hnc : n ≤ c) (hz : ∀ i, i < n → Z i ≤ 255) (hc : ∀ i, i < n → w.cell? ⟨b, o + i, none⟩ = some (.int .u8 (Z i : Nat)))
    (hp : Plain w zb) (hi : IntAt w zb zo zn none 0 0) :
    Calls Try.prog 30 #[.pointer (some ⟨zb, zo, none⟩), .slice (some ⟨b, o, none⟩) n c] w (fun e w' => RetInt w w' e zb zo ((n + 7) / 8) (leW (leB Z n))) := by
  have HC := hid (setBytes_nil w b o n c Z h1 hn hnc hz hc)
  have z0 := hi.1
  have z1 := hi.2
  have HZ := hid (And.intro hp hi)
  clear hz hc hp hi
  go_enter Try.func30, Try.ntmps30
  go_wp2_with (go_at_call 46; refine HC.out.mono ?_; clear HC; rintro e w1 ⟨k, cc, rfl, hcut, hmc, hw, hb⟩; have hi1 := HZ.out.2.below hb; have z0' := hi1.1; have z1' := hi1.2; have f1 := (HZ.out.1.below hb).frozen; have HR := hid (And.intro hcut (And.intro hw (And.intro hb hi1))); clear hcut hw hb hi1 z0 z1)
  go_ret
  have hkp : Kept zb w (put2 w1 zb zo (.slice (some ⟨w.heap.size, 0, none⟩) k cc) false) := (Kept.of_below HR.out.2.2.1).put2 _ _
  refine ⟨k, cc, rfl, HR.out.1, hmc, ?_, HR.out.2.2.2.put, hkp⟩
  exact ((Kept.refl zb w1).put2 _ _).wds HR.out.2.1 (by have := HZ.out.1.lt; omega)

set_option maxRecDepth 100000 in
/-- (*Int).Set of an Int to itself -/
theorem intSet_same (w : World) (a : Addr) : Calls Try.prog 47 #[.pointer (some a), .pointer (some a)] w (fun e w' => e = .returned (.pointer (some a)) ∧ w' = w) := by
  have hq := neq61_same w a
  go_enter Try.func47, Try.ntmps47
  go_wp2_with fail
  go_ret
  exact ⟨rfl, rfl⟩

set_option maxRecDepth 100000 in
/-- (*Int).Neg of an Int that is not 0, in place -/
theorem intNeg_same (w : World) (b o n c : Nat) (neg : Bool) (a : Option Addr) (h1 : 1 ≤ n) (hp : Plain w b) (hi : IntAt w b o neg a n c) :
    Calls Try.prog 31 #[.pointer (some ⟨b, o, none⟩), .pointer (some ⟨b, o, none⟩)] w (fun e w' => e = .returned (.pointer (some ⟨b, o, none⟩)) ∧ w' = w.setCell ⟨b, o, none⟩ (.bool (!neg))) := by
  have HC := hid (intSet_same w ⟨b, o, none⟩)
  have z0 := hi.1
  have z1 := hi.2
  have f1 := hp.frozen
  have h1' : (0 : Int) < n := by omega
  clear hp hi
  go_enter Try.func31, Try.ntmps31
  go_wp2_with (go_at_call 47; refine HC.out.mono ?_; clear HC; rintro e w1 ⟨rfl, rfl⟩)
  go_ret
  exact ⟨rfl, rfl⟩

end Go.Proofs.Qxb6002359a.B
