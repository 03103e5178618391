/- math/big: Int.Set, onto a number that is nil, from another. -/
import Derived.Test.Qxb6002359aLastB
namespace Go.Proofs.Qxb6002359a.B
open Go.RowKit Go.ChangeShapes Go.WideShapes Go.ChangeAt
set_option linter.unusedVariables false
set_option linter.unusedSimpArgs false

theorem info65 : (Try.prog.info? 65).map (fun i => i.size) = some 2 := by kernel_rfl
theorem info65' : ∃ i, Try.prog.info? 65 = some i ∧ i.size ≠ 0 := by
  obtain ⟨i, hi, hs⟩ := Option.map_eq_some_iff.1 info65
  exact ⟨i, hi, by omega⟩
theorem eql61_other {w : World} {a b : Addr} {ca cb : Array Value} {ta tb : TypeId} (hne : a ≠ b) (ha : w.heap[a.block]? = some (.cells ca ta (0, 0))) (hb : w.heap[b.block]? = some (.cells cb tb (0, 0))) : (binOp .eql 61 (.pointer (some a)) (.pointer (some b))).run Try.prog w = .ok (.bool false) w := by
  obtain ⟨i, hi, hs⟩ := info65'
  exact run_eql_ptr_other w Try.underlying61 hi hs hne ha hb
theorem eql61_same (w : World) (a : Addr) : (binOp .eql 61 (.pointer (some a)) (.pointer (some a))).run Try.prog w = .ok (.bool true) w := by
  obtain ⟨i, hi, hs⟩ := info65'
  exact run_eql_ptr_same w a Try.underlying61 hi
theorem neq61_same (w : World) (a : Addr) : (binOp .neq 61 (.pointer (some a)) (.pointer (some a))).run Try.prog w = .ok (.bool false) w := by
  obtain ⟨i, hi, hs⟩ := info65'
  have h : ∀ d : Nat, (Op.equalIn (d + 1) 61 (.pointer (some a)) (.pointer (some a))).run Try.prog w = .ok true w := fun d => by
    simp [Op.equalIn, run_underlying Try.underlying61, sizeOf, typeInfo, hi, run_sameAddr_same]
  simp only [binOp]
  simp [Op.equal, Op.maxDepth, h 9999]
theorem neq61_other {w : World} {a b : Addr} {ca cb : Array Value} {ta tb : TypeId} (hne : a ≠ b) (ha : w.heap[a.block]? = some (.cells ca ta (0, 0))) (hb : w.heap[b.block]? = some (.cells cb tb (0, 0))) : (binOp .neq 61 (.pointer (some a)) (.pointer (some b))).run Try.prog w = .ok (.bool true) w := by
  obtain ⟨i, hi, hs⟩ := info65'
  have h : ∀ d : Nat, (Op.equalIn (d + 1) 61 (.pointer (some a)) (.pointer (some b))).run Try.prog w = .ok false w := fun d => by
    simp [Op.equalIn, run_underlying Try.underlying61, sizeOf, typeInfo, hi, hs, run_sameAddr_other w hne ha hb]
  simp only [binOp]
  simp [Op.equal, Op.maxDepth, h 9999]

/-- the world behind the setting of an Int's two cells -/
def put2 (w1 : World) (zb zo : Nat) (v : Value) (neg : Bool) : World := (w1.setCell ⟨zb, zo + 1, none⟩ v).setCell ⟨zb, zo, none⟩ (.bool neg)

def RetSet (w w' : World) (e : Ending) (zb zo n : Nat) (W : Nat → Nat) (xn : Bool) : Prop :=
  ∃ (w1 : World) (c : Nat), e = .returned (.pointer (some ⟨zb, zo, none⟩)) ∧ n ≤ c ∧ CapOk n c ∧ Wds w1 (some ⟨w.heap.size, 0, none⟩) n W ∧ Below w.heap.size w w1 ∧ w' = put2 w1 zb zo (.slice (some ⟨w.heap.size, 0, none⟩) n c) xn

set_option maxRecDepth 100000 in
set_option maxHeartbeats 1600000 in
theorem intSet_new (w : World) (zb zo xb xo n cx : Nat) (a : Option Addr) (W : Nat → Nat) (zn xn : Bool) (cz cxs : Array Value) (tz tx : TypeId) (h1 : 1 ≤ n) (hn : n ≤ 65536) (hne : zb ≠ xb) (hz : w.heap[zb]? = some (.cells cz tz (0, 0))) (hx : w.heap[xb]? = some (.cells cxs tx (0, 0)))
    (z0 : w.cell? ⟨zb, zo, none⟩ = some (.bool zn)) (z1 : w.cell? ⟨zb, zo + 1, none⟩ = some (.slice none 0 0)) (x0 : w.cell? ⟨xb, xo, none⟩ = some (.bool xn)) (x1 : w.cell? ⟨xb, xo + 1, none⟩ = some (.slice a n cx)) (hw : Wds w a n W) :
    Calls Try.prog 47 #[.pointer (some ⟨zb, zo, none⟩), .pointer (some ⟨xb, xo, none⟩)] w (fun e w' => RetSet w w' e zb zo n W xn) := by
  have hq := neq61_other (w := w) (a := ⟨zb, zo, none⟩) (b := ⟨xb, xo, none⟩) (fun e => hne (by cases e; rfl)) hz hx
  have hzl := lt_of_cell z0
  have hxl := lt_of_cell x0
  have HC : Hid (Calls Try.prog 61 #[.slice none 0 0, .slice a n cx] w.drew (fun e w' => RetNat w.drew w' e n W)) := set_nil w.drew a n cx W h1 hn hw
  have HZ := hid (And.intro hz (And.intro z0 (And.intro z1 (And.intro x0 x1))))
  clear hw hx hz
  go_enter Try.func47, Try.ntmps47
  go_wp2_with fail
  have hS : (fun w' : World => w'.cell? ⟨zb, zo + 1, none⟩ = some (.slice none 0 0) ∧ w'.cell? ⟨xb, xo + 1, none⟩ = some (.slice a n cx)) w.drew := ⟨z1, x1⟩
  refine wp_region_E 12 (fun w' : World => w'.cell? ⟨zb, zo + 1, none⟩ = some (.slice none 0 0) ∧ w'.cell? ⟨xb, xo + 1, none⟩ = some (.slice a n cx)) (by kernel_rfl) ?_
  refine wpAnyE_take (i := 0) (v := ?_) (some 8) rfl rfl (by kernel_rfl) (by kernel_rfl) (by kernel_rfl) (by kernel_rfl) (fun _ _ _ h => h) (Or.inl ⟨by rfl, ?_⟩) (by assumption) ?_
  rotate_left
  · intro w hSw; (try dsimp only at hSw); go_simp; try with_reducible rfl
  simp only [Act.put, List.setIfInBounds_toArray, List.set_cons_zero, List.set_cons_succ]
  refine wpAnyE_take (i := 1) (v := ?_) (some 9) rfl rfl (by kernel_rfl) (by kernel_rfl) (by kernel_rfl) (by kernel_rfl) (fun _ _ _ h => h) (Or.inl ⟨by rfl, ?_⟩) (by assumption) ?_
  rotate_left
  · intro w hSw; (try dsimp only at hSw); go_simp; try with_reducible rfl
  simp only [Act.put, List.setIfInBounds_toArray, List.set_cons_zero, List.set_cons_succ]
  refine wpAnyE_take (i := 2) (v := ?_) (some 10) rfl rfl (by kernel_rfl) (by kernel_rfl) (by kernel_rfl) (by kernel_rfl) (fun _ _ _ h => h) (Or.inl ⟨by rfl, ?_⟩) (by assumption) ?_
  rotate_left
  · intro w hSw; (try dsimp only at hSw); go_simp; try with_reducible rfl
  simp only [Act.put, List.setIfInBounds_toArray, List.set_cons_zero, List.set_cons_succ]
  refine wpAnyE_take (i := 3) (v := ?_) (some 11) rfl rfl (by kernel_rfl) (by kernel_rfl) (by kernel_rfl) (by kernel_rfl) (fun _ _ _ h => h) (Or.inl ⟨by rfl, ?_⟩) (by assumption) ?_
  rotate_left
  · intro w hSw; (try dsimp only at hSw); go_simp; try with_reducible rfl
  simp only [Act.put, List.setIfInBounds_toArray, List.set_cons_zero, List.set_cons_succ]
  refine wpAnyE_take (i := 4) (v := ?_) (some 12) rfl rfl (by kernel_rfl) (by kernel_rfl) (by kernel_rfl) (by kernel_rfl) (fun _ _ _ h => h) (Or.inl ⟨by rfl, ?_⟩) (by assumption) ?_
  rotate_left
  · intro w hSw; (try dsimp only at hSw); go_simp; try with_reducible rfl
  simp only [Act.put, List.setIfInBounds_toArray, List.set_cons_zero, List.set_cons_succ]
  refine wpAnyE_take (i := 5) (v := ?_) (some 13) rfl rfl (by kernel_rfl) (by kernel_rfl) (by kernel_rfl) (by kernel_rfl) (fun _ _ _ h => h) (Or.inl ⟨by rfl, ?_⟩) (by assumption) ?_
  rotate_left
  · intro w hSw; (try dsimp only at hSw); go_simp; try with_reducible rfl
  simp only [Act.put, List.setIfInBounds_toArray, List.set_cons_zero, List.set_cons_succ]
  refine wpAnyE_take (i := 6) (v := ?_) (some 14) rfl rfl (by kernel_rfl) (by kernel_rfl) (by kernel_rfl) (by kernel_rfl) (fun _ _ _ h => h) (Or.inl ⟨by rfl, ?_⟩) (by assumption) ?_
  rotate_left
  · intro w hSw; (try dsimp only at hSw); go_simp; try with_reducible rfl
  simp only [Act.put, List.setIfInBounds_toArray, List.set_cons_zero, List.set_cons_succ]
  refine wpAnyE_take (i := 7) (v := ?_) (some 15) rfl rfl (by kernel_rfl) (by kernel_rfl) (by kernel_rfl) (by kernel_rfl) (fun _ _ _ h => h) (Or.inl ⟨by rfl, ?_⟩) (by assumption) ?_
  rotate_left
  · intro w hSw; (try dsimp only at hSw); go_simp; try with_reducible rfl
  simp only [Act.put, List.setIfInBounds_toArray, List.set_cons_zero, List.set_cons_succ]
  refine wpAnyE_take (i := 8) (v := ?_) (some 16) rfl rfl (by kernel_rfl) (by kernel_rfl) (by kernel_rfl) (by kernel_rfl) (fun _ _ _ h => h) (Or.inl ⟨by rfl, ?_⟩) (by assumption) ?_
  rotate_left
  · intro w hSw; (try dsimp only at hSw); go_simp; try with_reducible rfl
  simp only [Act.put, List.setIfInBounds_toArray, List.set_cons_zero, List.set_cons_succ]
  clear z0 z1 x0 x1 hq
  refine wpAnyE_one (i := 9) rfl (by kernel_rfl) ?_
  intro K1 hK1
  go_simp
  go_at_call 61
  refine HC.out.mono ?_
  clear HC
  rintro e w1 ⟨c, rfl, hc1, hc2, hW1, b1⟩
  have z1' : w1.cell? ⟨zb, zo + 1, none⟩ = some (.slice none 0 0) := (b1.cell hzl).trans HZ.out.2.2.1
  have x1' : w1.cell? ⟨xb, xo + 1, none⟩ = some (.slice a n cx) := (b1.cell hxl).trans HZ.out.2.2.2.2
  have f1 : ∀ i, w1.frozen? ⟨zb, i, none⟩ = false := fun i => by
    have e1 : w1.heap[zb]? = some (.cells cz tz (0, 0)) := (b1.block zb hzl).trans HZ.out.1
    simp [World.frozen?, e1]
  have HS1 : Hid ((fun w' : World => w'.cell? ⟨zb, zo + 1, none⟩ = some (.slice none 0 0) ∧ w'.cell? ⟨xb, xo + 1, none⟩ = some (.slice a n cx)) w1) := ⟨z1', x1'⟩
  refine hK1.out _ _ (.inr HS1.out) ?_
  clear hK1 K1 x1'
  try simp only [Act.put, List.setIfInBounds_toArray, List.set_cons_zero, List.set_cons_succ]
  refine wpAnyE_one (i := 10) rfl (by kernel_rfl) ?_
  intro K1 hK1
  go_simp
  refine hK1.out _ _ (.inr HS1.out) ?_
  clear hK1 K1
  try simp only [Act.put, List.setIfInBounds_toArray, List.set_cons_zero, List.set_cons_succ]
  refine wpAnyE_one (i := 11) rfl (by kernel_rfl) ?_
  intro K1 hK1
  go_simp
  refine hK1.out _ _ (.inr HS1.out) ?_
  clear hK1 K1
  try simp only [Act.put, List.setIfInBounds_toArray, List.set_cons_zero, List.set_cons_succ]
  refine wpAnyE_one (i := 12) rfl (by kernel_rfl) ?_
  intro K1 hK1
  go_simp
  refine hK1.out _ _ (.inl rfl) ?_
  clear hK1 K1
  try simp only [Act.put, List.setIfInBounds_toArray, List.set_cons_zero, List.set_cons_succ]
  refine wpAnyE_done (by kernel_rfl) ?_ _
  have x0' : (w1.setCell ⟨zb, zo + 1, none⟩ (.slice (some ⟨w.heap.size, 0, none⟩) n c)).cell? ⟨xb, xo, none⟩ = some (.bool xn) := by
    rw [World.cell?_setCell_far _ _ _ _ (by exact hne)]
    exact (b1.cell hxl).trans HZ.out.2.2.2.1
  have z0' : (w1.setCell ⟨zb, zo + 1, none⟩ (.slice (some ⟨w.heap.size, 0, none⟩) n c)).cell? ⟨zb, zo, none⟩ = some (.bool zn) := by
    rw [World.cell?_setCell_other _ _ _ _ (by simp)]
    exact (b1.cell hzl).trans HZ.out.2.1
  have HR := hid (And.intro hW1 b1)
  clear hW1 b1 z1'
  go_wp2_with fail
  go_ret
  exact ⟨w1, c, rfl, hc1, hc2, HR.out.1, ⟨HR.out.2.os, HR.out.2.tape, HR.out.2.output, HR.out.2.size, HR.out.2.block⟩, rfl⟩

end Go.Proofs.Qxb6002359a.B
