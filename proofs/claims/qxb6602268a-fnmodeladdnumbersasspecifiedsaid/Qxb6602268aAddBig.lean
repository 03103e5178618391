/- FnModelAddNumbersAsSpecified: a slice or string too long. -/
import Derived.Test.Qxb6602268aAdd0
namespace Go.Proofs.Qxb6602268a.M
open Go.ChangeShapes Go.WideShapes Go.ChangeAt Go.RowKit Go.Maps
set_option linter.unusedVariables false

set_option maxRecDepth 1000000 in
set_option maxHeartbeats 4000000 in
theorem add_big (w0 : World) (cl ca re : Int) (a0 a1 a2 a3 a4 a5 a6 a7 : Option Addr) (n1 n3 n5 n7 c0 c1 c2 c3 c4 c5 c6 c7 : Nat) (L0 L2 L4 L6 : List ByteArray) (oc : ByteArray) (Z1 Z3 : Nat → Int) (A5 A7 : Nat → Option Addr) (T5 T7 : Nat → ByteArray) (HG : (Args6 w0 a0 a1 a2 a3 a4 a5 a6 a7 n1 n3 n5 n7 L0 L2 L4 L6 Z1 Z3 A5 A7 T5 T7)) (hbig : 1048576 < L0.length ∨ (L0.length ≤ 1048576 ∧ 1048576 < n1) ∨ (L0.length ≤ 1048576 ∧ n1 ≤ 1048576 ∧ 1048576 < L2.length) ∨ (L0.length ≤ 1048576 ∧ n1 ≤ 1048576 ∧ L2.length ≤ 1048576 ∧ 1048576 < n3) ∨ (L0.length ≤ 1048576 ∧ n1 ≤ 1048576 ∧ L2.length ≤ 1048576 ∧ n3 ≤ 1048576 ∧ 1048576 < L4.length) ∨ (L0.length ≤ 1048576 ∧ n1 ≤ 1048576 ∧ L2.length ≤ 1048576 ∧ n3 ≤ 1048576 ∧ L4.length ≤ 1048576 ∧ 1048576 < n5) ∨ (L0.length ≤ 1048576 ∧ n1 ≤ 1048576 ∧ L2.length ≤ 1048576 ∧ n3 ≤ 1048576 ∧ L4.length ≤ 1048576 ∧ n5 ≤ 1048576 ∧ 1048576 < L6.length) ∨ (L0.length ≤ 1048576 ∧ n1 ≤ 1048576 ∧ L2.length ≤ 1048576 ∧ n3 ≤ 1048576 ∧ L4.length ≤ 1048576 ∧ n5 ≤ 1048576 ∧ L6.length ≤ 1048576 ∧ 1048576 < n7) ∨ (L0.length ≤ 1048576 ∧ n1 ≤ 1048576 ∧ L2.length ≤ 1048576 ∧ n3 ≤ 1048576 ∧ L4.length ≤ 1048576 ∧ n5 ≤ 1048576 ∧ L6.length ≤ 1048576 ∧ n7 ≤ 1048576 ∧ 1048576 < oc.size)) :
    Calls Try.prog 5 #[.slice a0 L0.length c0, .slice a1 n1 c1, .slice a2 L2.length c2, .slice a3 n3 c3, .int .i64 cl, .int .i64 ca, .int .i64 re, .slice a4 L4.length c4, .slice a5 n5 c5, .slice a6 L6.length c6, .slice a7 n7 c7, .string oc] w0 (fun e w' => e = .returned (.bool true) ∧ Below w0.heap.size w0 w') := by
  have HBy := hid (bytes17_any w0 cl ca re a0 a1 a2 a3 a4 a5 a6 a7 n1 n3 n5 n7 c0 c1 c2 c3 c4 c5 c6 c7 L0 L2 L4 L6 A5 A7 T5 T7 oc HG.s0 HG.s2 HG.s4 HG.s6 HG.p5 HG.p7)
  clear HG
  rcases hbig with g0 | ⟨g0, g1⟩ | ⟨g0, g1, g2⟩ | ⟨g0, g1, g2, g3⟩ | ⟨g0, g1, g2, g3, g4⟩ | ⟨g0, g1, g2, g3, g4, g5⟩ | ⟨g0, g1, g2, g3, g4, g5, g6⟩ | ⟨g0, g1, g2, g3, g4, g5, g6, g7⟩ | ⟨g0, g1, g2, g3, g4, g5, g6, g7, g8⟩
  all_goals
    go_enter Try.func5, Try.ntmps5
    go_wp2_with (go_at_call 17; refine HBy.out.mono ?_; clear HBy; rintro e w1 ⟨b, rfl, rfl⟩; cases b)
    all_goals (go_ret; exact ⟨rfl, Below.refl _ _⟩)

end Go.Proofs.Qxb6602268a.M
