/- math/big: Rat.SetInt, Rat.Set at z = x, Rat.Inv at z = x. -/
import Derived.Test.Qxb6002359aBig7
import Derived.BigRegion
namespace Go.Proofs.Qxb6002359a.B
open Go.RowKit Go.ChangeShapes Go.WideShapes Go.ChangeAt
set_option linter.unusedVariables false
set_option linter.unusedSimpArgs false

theorem put2_far {w : World} {z o i : Nat} {v : Value} {b : Bool} (h0 : i ≠ o) (h1 : i ≠ o + 1) : (put2 w z o v b).cell? ⟨z, i, none⟩ = w.cell? ⟨z, i, none⟩ := by
  unfold put2
  rw [World.cell?_setCell_other _ _ _ _ (fun e => h0 (by cases e; rfl)), World.cell?_setCell_other _ _ _ _ (fun e => h1 (by cases e; rfl))]

/-- (*Int).Set, the receiver's number nil: in facts -/
theorem intSet_fresh (w : World) (zb zo xb xo n cx : Nat) (a : Option Addr) (W : Nat → Nat) (zn xn : Bool) (h1 : 1 ≤ n) (hn : n ≤ 65536) (hne : zb ≠ xb) (hz : Plain w zb) (hx : Plain w xb)
    (zi : IntAt w zb zo zn none 0 0) (xi : IntAt w xb xo xn a n cx) (hw : Wds w a n W) :
    Calls Try.prog 47 #[.pointer (some ⟨zb, zo, none⟩), .pointer (some ⟨xb, xo, none⟩)] w (fun e w' => e = .returned (.pointer (some ⟨zb, zo, none⟩)) ∧ ∃ c, CapOk n c ∧ Wds w' (some ⟨w.heap.size, 0, none⟩) n W ∧ IntAt w' zb zo xn (some ⟨w.heap.size, 0, none⟩) n c ∧ Kept zb w w' ∧ ∀ i, i ≠ zo → i ≠ zo + 1 → w'.cell? ⟨zb, i, none⟩ = w.cell? ⟨zb, i, none⟩) := by
  obtain ⟨cz, tz, hz'⟩ := hz
  obtain ⟨cx', tx, hx'⟩ := hx
  refine (intSet_new w zb zo xb xo n cx a W zn xn cz cx' tz tx h1 hn hne hz' hx' zi.1 zi.2 xi.1 xi.2 hw).mono ?_
  rintro e w' ⟨w1, c, rfl, hc1, hc2, hW, hb, rfl⟩
  have hl := lt_of_cell zi.1
  refine ⟨rfl, c, hc2, ((Kept.refl zb w1).put2 _ _).wds hW (by simp at hl; omega), (zi.below hb).put, (Kept.of_below hb).put2 _ _, fun i h0 h1 => ?_⟩
  rw [put2_far h0 h1]
  exact hb.cell hl

def RatAt (w : World) (r : Nat) (neg : Bool) (a : Option Addr) (n c : Nat) (a1 : Option Addr) (n1 c1 : Nat) : Prop := IntAt w r 0 neg a n c ∧ IntAt w r 2 false a1 n1 c1

set_option maxRecDepth 100000 in
theorem ratSetInt_new (w : World) (r xb xo n cx : Nat) (a : Option Addr) (W : Nat → Nat) (xn : Bool) (h1 : 1 ≤ n) (hn : n ≤ 65536) (hne : r ≠ xb) (hr : Plain w r) (hx : Plain w xb)
    (ri : RatAt w r false none 0 0 none 0 0) (xi : IntAt w xb xo xn a n cx) (hw : Wds w a n W) :
    Calls Try.prog 32 #[.pointer (some ⟨r, 0, none⟩), .pointer (some ⟨xb, xo, none⟩)] w (fun e w' => e = .returned (.pointer (some ⟨r, 0, none⟩)) ∧ ∃ (g c g2 c2 : Nat), r ≠ g ∧ r ≠ g2 ∧ Wds w' (some ⟨g, 0, none⟩) n W ∧ Wds w' (some ⟨g2, 0, none⟩) 1 (fun _ => 1) ∧ RatAt w' r xn (some ⟨g, 0, none⟩) n c (some ⟨g2, 0, none⟩) 1 c2 ∧ Kept r w w') := by
  have HC := hid (intSet_fresh w r 0 xb xo n cx a W false xn h1 hn hne hr hx ri.1 xi hw)
  have HZ := hid (And.intro hr ri)
  have hrl := hr.lt
  clear hr hx ri xi hw
  go_enter Try.func32, Try.ntmps32
  go_wp2_with (first | (go_at_call 47; refine HC.out.mono ?_; clear HC; rintro e w1 ⟨rfl, c, hcap, hW, hi, hk, ho⟩; have hri : RatAt w1 r xn (some ⟨w.heap.size, 0, none⟩) n c none 0 0 := ⟨hi, (ho 2 (by omega) (by omega)).trans HZ.out.2.2.1, (ho 3 (by omega) (by omega)).trans HZ.out.2.2.2⟩; have c1 := hi.1; have c2 := hi.2; have c3 := hri.2.1; have c4 := hri.2.2; have HR := hid (And.intro hW (And.intro hri hk)); have HC := hid (setWord_one w1); clear hW hi hri hk ho) | (go_at_call 48; refine HC.out.mono ?_; clear HC; rintro e w2 ⟨cc, rfl, hc1, hc5, hw1, hb⟩; have hri2 : RatAt w2 r xn (some ⟨w.heap.size, 0, none⟩) n c none 0 0 := ⟨HR.out.2.1.1.below hb, HR.out.2.1.2.below hb⟩; have d1 := hri2.1.1; have d2 := hri2.1.2; have d3 := hri2.2.1; have d4 := hri2.2.2; have f1 := ((HZ.out.1.kept HR.out.2.2).below hb).frozen; have HR2 := hid (And.intro hw1 (And.intro hb hri2)); clear hri2 hw1 hb c1 c2 c3 c4))
  go_ret
  have hk2 : Kept r w2 (w2.setCell ⟨r, 3, none⟩ (.slice (some ⟨w1.heap.size, 0, none⟩) 1 cc)) := Kept.setCell r 3 _ w2
  have hlt : w.heap.size ≤ w1.heap.size := HR.out.2.2.size
  refine ⟨rfl, w.heap.size, c, w1.heap.size, cc, by omega, by omega, hk2.wds (HR.out.1.below HR2.out.2.1) (by omega), hk2.wds HR2.out.1 (by omega), ?_, (HR.out.2.2.trans (Kept.of_below HR2.out.2.1)).trans hk2⟩
  refine ⟨⟨?_, ?_⟩, ?_, ?_⟩
  · rw [World.cell?_setCell_other _ _ _ _ (by simp)]; exact d1
  · rw [World.cell?_setCell_other _ _ _ _ (by simp)]; exact d2
  · rw [World.cell?_setCell_other _ _ _ _ (by simp)]; exact d3
  · exact World.cell?_setCell_same _ _ _ d4

theorem info70 : (Try.prog.info? 70).map (fun i => i.size) = some 4 := by kernel_rfl
theorem neq68_same (w : World) (a : Addr) : (binOp .neq 68 (.pointer (some a)) (.pointer (some a))).run Try.prog w = .ok (.bool false) w := by
  obtain ⟨i, hi, hs⟩ := Option.map_eq_some_iff.1 info70
  have h : ∀ d : Nat, (Op.equalIn (d + 1) 68 (.pointer (some a)) (.pointer (some a))).run Try.prog w = .ok true w := fun d => by
    simp [Op.equalIn, run_underlying Try.underlying68, sizeOf, typeInfo, hi, run_sameAddr_same]
  simp only [binOp]
  simp [Op.equal, Op.maxDepth, h 9999]

set_option maxRecDepth 100000 in
theorem ratSet_same (w : World) (r n1 c1 : Nat) (a1 : Option Addr) (neg : Bool) (h1 : 1 ≤ n1) (hb : IntAt w r 2 neg a1 n1 c1) :
    Calls Try.prog 49 #[.pointer (some ⟨r, 0, none⟩), .pointer (some ⟨r, 0, none⟩)] w (fun e w' => e = .returned (.pointer (some ⟨r, 0, none⟩)) ∧ w' = w) := by
  have hq := neq68_same w ⟨r, 0, none⟩
  have z0 := hb.1
  have z1 := hb.2
  have h1' : ((n1 : Int) == 0) = false := by rw [beq_eq_false_iff_ne]; omega
  clear hb
  go_enter Try.func49, Try.ntmps49
  go_wp2_with fail
  go_ret
  exact ⟨rfl, rfl⟩

set_option maxRecDepth 100000 in
theorem ratInv_same (w : World) (r n c n1 c1 : Nat) (a a1 : Option Addr) (neg : Bool) (h0 : 1 ≤ n) (h1 : 1 ≤ n1) (hr : Plain w r) (ri : RatAt w r neg a n c a1 n1 c1) :
    Calls Try.prog 33 #[.pointer (some ⟨r, 0, none⟩), .pointer (some ⟨r, 0, none⟩)] w (fun e w' => e = .returned (.pointer (some ⟨r, 0, none⟩)) ∧ RatAt w' r neg a1 n1 c1 a n c ∧ Kept r w w') := by
  have HC := hid (ratSet_same w r n1 c1 a1 false h1 ri.2)
  have z0 := ri.1.1
  have z1 : w.cell? ⟨r, 1, none⟩ = some (.slice a n c) := ri.1.2
  have z2 := ri.2.1
  have z3 : w.cell? ⟨r, 3, none⟩ = some (.slice a1 n1 c1) := ri.2.2
  have h1' : ((n : Int) == 0) = false := by rw [beq_eq_false_iff_ne]; omega
  have HZ := hid (And.intro hr ri)
  clear hr ri
  go_enter Try.func33, Try.ntmps33
  go_wp2_with (go_at_call 49; refine HC.out.mono ?_; clear HC; rintro e w1 ⟨rfl, rfl⟩)
  have f1 := HZ.out.1.frozen
  go_region
  go_wp2_with fail
  go_ret
  have hk : Kept r w1 ((w1.setCell ⟨r, 1, none⟩ (.slice a1 n1 c1)).setCell ⟨r, 3, none⟩ (.slice a n c)) := (Kept.setCell r 1 _ w1).trans (Kept.setCell r 3 _ _)
  refine ⟨rfl, ⟨⟨?_, ?_⟩, ?_, ?_⟩, hk.drewN 1⟩
  · show ((w1.setCell ⟨r, 1, none⟩ (.slice a1 n1 c1)).setCell ⟨r, 3, none⟩ (.slice a n c)).cell? _ = _
    rw [World.cell?_setCell_other _ _ _ _ (by simp), World.cell?_setCell_other _ _ _ _ (by simp)]; exact z0
  · show ((w1.setCell ⟨r, 1, none⟩ (.slice a1 n1 c1)).setCell ⟨r, 3, none⟩ (.slice a n c)).cell? _ = _
    rw [World.cell?_setCell_other _ _ _ _ (by simp)]
    exact World.cell?_setCell_same _ _ _ z1
  · show ((w1.setCell ⟨r, 1, none⟩ (.slice a1 n1 c1)).setCell ⟨r, 3, none⟩ (.slice a n c)).cell? _ = _
    rw [World.cell?_setCell_other _ _ _ _ (by simp), World.cell?_setCell_other _ _ _ _ (by simp)]; exact z2
  · show ((w1.setCell ⟨r, 1, none⟩ (.slice a1 n1 c1)).setCell ⟨r, 3, none⟩ (.slice a n c)).cell? _ = _
    exact World.cell?_setCell_same _ _ _ (u := .slice a1 n1 c1) (by rw [World.cell?_setCell_other _ _ _ _ (by simp)]; exact z3)
end Go.Proofs.Qxb6002359a.B
