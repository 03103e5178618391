/- ZZModelAdd and ZZModelOp. -/
import Derived.Test.Qxb6602268aAdd
namespace Go.Proofs.Qxb6602268a.M
open Go.ChangeShapes Go.WideShapes Go.ChangeAt Go.RowKit Go.Maps
set_option linter.unusedVariables false

theorem modelAdd_any (w : World) (mb : Nat) (cl ca re : Int) (rv wv : Value) (oc : ByteArray) (R : World → Prop)
    (C : Calls Try.prog 41 #[.pointer (some ⟨mb, 0, none⟩), .agg #[.int .i64 cl, .int .i64 ca, .int .i64 re, rv, wv, .string oc]] (w.alloc (.cells #[.int .i64 cl, .int .i64 ca, .int .i64 re, rv, wv, .string oc] 54)) (fun e w' => (∃ v, e = .returned v) ∧ R w')) :
    Calls Try.prog 23 #[.pointer (some ⟨mb, 0, none⟩), .agg #[.int .i64 cl, .int .i64 ca, .int .i64 re, rv, wv, .string oc]] w (fun e w' => (∃ v, e = .returned v) ∧ R w') := by
  have HC : Hid (Calls Try.prog 41 #[.pointer (some ⟨mb, 0, none⟩), .agg #[.int .i64 cl, .int .i64 ca, .int .i64 re, rv, wv, .string oc]] (w.alloc (.cells #[.int .i64 cl, .int .i64 ca, .int .i64 re, rv, wv, .string oc] 54)) (fun e w' => (∃ v, e = .returned v) ∧ R w')) := C
  clear C
  go_enter Try.func23, Try.ntmps23
  go_wp2_with (go_at_call 41; refine HC.out.mono ?_; clear HC; rintro e w' ⟨⟨v, rfl⟩, hR⟩)
  refine bodyPost_end (v := .tuple #[]) (by simp [results, Try.results23, go_sem]) rfl ?_
  exact ⟨⟨_, rfl⟩, hR⟩

/-- ZZModelOp has come back with the one operation -/
def RetOp (w w' : World) (e : Ending) (n1 n2 : Nat) (K1 V1 K2 V2 : Nat → Int) (ca re : Int) (u : Bool) : Prop :=
  ∃ a1 a2 a3 a4, e = .returned (.tuple #[.slice a1 n1 n1, .slice a2 n1 n1, .slice a3 n2 n2, .slice a4 n2 n2, .int .i64 ca, .int .i64 re, .bool u]) ∧ Ints w' a1 n1 K1 ∧ Ints w' a2 n1 V1 ∧ Ints w' a3 n2 K2 ∧ Ints w' a4 n2 V2 ∧ Below w.heap.size w w'

set_option maxRecDepth 100000 in
set_option maxHeartbeats 1600000 in
theorem modelOp_any (w : World) (mb ob qb c n1 n2 cr cw : Nat) (ar aw : Option Addr) (K1 V1 K2 V2 : Nat → Int) (ca re : Int) (u : Bool) (h1 : n1 ≤ 1048576) (h2 : n2 ≤ 1048576)
    (m0 : w.cell? ⟨mb, 0, none⟩ = some (.slice (some ⟨ob, 0, none⟩) 1 c)) (o0 : w.cell? ⟨ob, 0, none⟩ = some (.pointer (some ⟨qb, 0, none⟩)))
    (q0 : w.cell? ⟨qb, 0, none⟩ = some (.slice ar n1 cr)) (q1 : w.cell? ⟨qb, 1, none⟩ = some (.slice aw n2 cw)) (q2 : w.cell? ⟨qb, 2, none⟩ = some (.int .i64 ca)) (q3 : w.cell? ⟨qb, 3, none⟩ = some (.int .i64 re)) (q4 : w.cell? ⟨qb, 4, none⟩ = some (.bool u))
    (pr : Prs w ar n1 K1 V1) (pw : Prs w aw n2 K2 V2) :
    Calls Try.prog 31 #[.pointer (some ⟨mb, 0, none⟩), .int .i64 0] w (fun e w' => RetOp w w' e n1 n2 K1 V1 K2 V2 ca re u) := by
  have HQ : Hid (w.cell? ⟨qb, 1, none⟩ = some (.slice aw n2 cw) ∧ w.cell? ⟨qb, 2, none⟩ = some (.int .i64 ca) ∧ w.cell? ⟨qb, 3, none⟩ = some (.int .i64 re) ∧ w.cell? ⟨qb, 4, none⟩ = some (.bool u)) := ⟨q1, q2, q3, q4⟩
  have HP : Hid (Prs w ar n1 K1 V1 ∧ Prs w aw n2 K2 V2) := ⟨pr, pw⟩
  have hqw : qb < w.heap.size := lt_of_cell q0
  have HC1 : Hid (Calls Try.prog 43 #[.slice ar n1 cr] w (fun e w' => RetInts2 w w' e n1 K1 V1)) := unpack_any w ar n1 cr K1 V1 h1 pr
  clear pr pw q1 q2 q3 q4
  go_enter Try.func31, Try.ntmps31
  go_wp2_with (first | (go_at_call 43; refine HC1.out.mono ?_; clear HC1; rintro e w1 ⟨a1, a2, rfl, i1, i2, b1⟩; have HC2 : Hid (Calls Try.prog 43 #[.slice aw n2 cw] w1 (fun e w' => RetInts2 w1 w' e n2 K2 V2)) := unpack_any w1 aw n2 cw K2 V2 h2 (HP.out.2.below b1); have q1' : w1.cell? ⟨qb, 1, none⟩ = some (.slice aw n2 cw) := (b1.cell hqw).trans HQ.out.1) | (go_at_call 43; refine HC2.out.mono ?_; clear HC2; rintro e w2 ⟨a3, a4, rfl, i3, i4, b2⟩; have b12 : Below w.heap.size w w2 := ⟨b2.os.trans b1.os, b2.tape.trans b1.tape, b2.output.trans b1.output, Nat.le_trans b1.size b2.size, fun i hi => (b2.block i (Nat.lt_of_lt_of_le hi b1.size)).trans (b1.block i hi)⟩; have q2' : w2.cell? ⟨qb, 2, none⟩ = some (.int .i64 ca) := (b12.cell hqw).trans HQ.out.2.1; have q3' : w2.cell? ⟨qb, 3, none⟩ = some (.int .i64 re) := (b12.cell hqw).trans HQ.out.2.2.1; have q4' : w2.cell? ⟨qb, 4, none⟩ = some (.bool u) := (b12.cell hqw).trans HQ.out.2.2.2))
  go_quiet (fail)
  go_wp2_with fail
  refine bodyPost_ret (v := .tuple #[.slice a1 n1 n1, .slice a2 n1 n1, .slice a3 n2 n2, .slice a4 n2 n2, .int .i64 ca, .int .i64 re, .bool u]) (by simp [results, Try.results31, go_sem]) rfl ?_
  exact ⟨a1, a2, a3, a4, rfl, (i1.below b2).drewN _, (i2.below b2).drewN _, i3.drewN _, i4.drewN _, ⟨b12.os, b12.tape, b12.output, b12.size, b12.block⟩⟩
end Go.Proofs.Qxb6602268a.M
