/- math/big: nat.set on nil; Int.Set. -/
import Derived.Test.Qxb6002359aBig2
namespace Go.Proofs.Qxb6002359a.B
open Go.RowKit Go.ChangeShapes Go.WideShapes Go.ChangeAt
set_option linter.unusedVariables false
set_option linter.unusedSimpArgs false

theorem setCells_other (b : Nat) : ∀ (vs : List Value) (o : Nat) (w : World) (i : Nat), i ≠ b → (w.setCells b o vs).heap[i]? = w.heap[i]?
  | [], _, _, _, _ => rfl
  | v :: r, o, w, i, h => by
    rw [World.setCells, setCells_other b r (o + 1) _ i h]
    exact Below.heap_setCell _ _ _ _ h
theorem setCells_rest (b : Nat) : ∀ (vs : List Value) (o : Nat) (w : World), (w.setCells b o vs).os = w.os ∧ (w.setCells b o vs).tape = w.tape ∧ (w.setCells b o vs).output = w.output ∧ (w.setCells b o vs).heap.size = w.heap.size
  | [], _, _ => ⟨rfl, rfl, rfl, rfl⟩
  | v :: r, o, w => by
    have := setCells_rest b r (o + 1) (w.setCell ⟨b, o, none⟩ v)
    exact ⟨this.1, this.2.1, this.2.2.1, this.2.2.2.trans (by simp)⟩
theorem below_setCells {B b o : Nat} {w0 w : World} (h : Below B w0 w) (hb : B ≤ b) (vs : List Value) : Below B w0 (w.setCells b o vs) := by
  obtain ⟨h1, h2, h3, h4⟩ := setCells_rest b vs o w
  exact ⟨h1.trans h.os, h2.trans h.tape, h3.trans h.output, by rw [h4]; exact h.size, fun i hi => (setCells_other b vs o w i (by omega)).trans (h.block i hi)⟩

def wcells (W : Nat → Nat) (n : Nat) : List Value := (List.range n).map fun i => .int .u64 (W i : Nat)
theorem wcells_length (W : Nat → Nat) (n : Nat) : (wcells W n).length = n := by simp [wcells]
theorem wcells_get (W : Nat → Nat) (n i : Nat) (h : i < n) : (wcells W n)[i]? = some (.int .u64 (W i : Nat)) := by simp [wcells, h]

theorem size87 : (Try.prog.info? 87).map (·.size) = some 1 := by kernel_rfl

/-- copy of words -/
theorem copy_words (w : World) (g dl dc xb n cx o : Nat) (W : Nat → Nat) (hd : dl = n) (hx : ∀ i, i < n → w.cell? ⟨xb, i, none⟩ = some (.int .u64 (W i : Nat))) (hc : ∀ j, j < n → (w.cell? ⟨g, o + j, none⟩).isSome = true) (hf : ∀ j, j < n → w.frozen? ⟨g, o + j, none⟩ = false) (ty : TypeId) :
    (Builtin.copy_ #[63, 63] ty #[.slice (some ⟨g, o, none⟩) dl dc, .slice (some ⟨xb, 0, none⟩) n cx]).run Try.prog w = .ok (goInt n) (w.setCells g o (wcells W n)) := by
  subst hd
  have := run_copy_cells (P := Try.prog) w 63 63 ty 87 g o dl dc ⟨xb, 0, none⟩ dl cx (wcells W dl) Try.underlying63 size87 (by rw [wcells_length]; simp) (fun j v hv => by
      have hj : j < dl := by
        have := (List.getElem?_eq_some_iff.1 hv).1
        rwa [wcells_length] at this
      rw [wcells_get W dl j hj] at hv
      cases hv
      rw [Go.WideShapes.add_plain, Nat.zero_add]
      exact hx j hj) (by rw [wcells_length]; exact hc) (by rw [wcells_length]; exact hf) (fun v hv => by
      simp [wcells] at hv
      obtain ⟨i, _, rfl⟩ := hv
      rfl)
  rw [wcells_length] at this
  exact this

theorem wds_setCells {w : World} {g o n : Nat} {W : Nat → Nat} (hc : ∀ j, j < n → (w.cell? ⟨g, o + j, none⟩).isSome = true) : ∀ j, j < n → (w.setCells g o (wcells W n)).cell? ⟨g, o + j, none⟩ = some (.int .u64 (W j : Nat)) := by
  intro j hj
  have := World.cell?_setCells_in g (wcells W n) o w (by rw [wcells_length]; exact hc) j (by rw [wcells_length]; exact hj)
  rw [this]
  have := wcells_get W n j hj
  rw [List.getElem?_eq_getElem (by rw [wcells_length]; exact hj)] at this
  exact this

/-- a new number has come back -/
def RetNat (w w' : World) (e : Ending) (n : Nat) (W : Nat → Nat) : Prop := ∃ c, e = .returned (.slice (some ⟨w.heap.size, 0, none⟩) n c) ∧ n ≤ c ∧ CapOk n c ∧ Wds w' (some ⟨w.heap.size, 0, none⟩) n W ∧ Below w.heap.size w w'

set_option maxRecDepth 100000 in
theorem set_nil (w : World) (a : Option Addr) (n cx : Nat) (W : Nat → Nat) (h1 : 1 ≤ n) (hn : n ≤ 65536) (hw : Wds w a n W) :
    Calls Try.prog 61 #[.slice none 0 0, .slice a n cx] w (fun e w' => RetNat w w' e n W) := by
  obtain ⟨xb, rfl, hx⟩ := hw h1
  have HX := hid hx
  have hxl := lt_of_cell (hx 0 h1)
  have HC : Hid (Calls Try.prog 58 #[.slice none 0 0, .int .i64 n] w (fun e w' => RetMade w w' e n)) := make_new w none 0 0 n hn (by omega)
  clear hw hx
  go_enter Try.func61, Try.ntmps61
  go_wp2_with (go_at_call 58; refine HC.out.mono ?_; clear HC; rintro e w1 ⟨c, rfl, hc1, hc2, hr, hb⟩; have hcp := fun ty => copy_words w1 w.heap.size n c xb n cx 0 W rfl (fun i hi => (hb.cell hxl).trans (HX.out i hi)) (fun j hj => by { rw [Nat.zero_add, hr.cell (by omega)]; rfl }) (fun j hj => hr.frozen _) ty; have HR := hid (And.intro hr hb); clear hr hb)
  go_ret
  refine ⟨c, rfl, hc1, hc2, fun _ => ⟨_, rfl, fun i hi => ?_⟩, below_setCells HR.out.2 (Nat.le_refl _) _⟩
  have := wds_setCells (w := w1) (g := w.heap.size) (o := 0) (n := n) (W := W) (fun j hj => by rw [Nat.zero_add, HR.out.1.cell (by omega)]; rfl) i hi
  rwa [Nat.zero_add] at this

end Go.Proofs.Qxb6002359a.B
