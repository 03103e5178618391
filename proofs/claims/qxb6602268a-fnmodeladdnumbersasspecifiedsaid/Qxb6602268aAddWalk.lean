/- FnModelAddNumbersAsSpecified: its walk. -/
import Derived.Test.Qxb6602268aAddBig
namespace Go.Proofs.Qxb6602268a.M
open Go.ChangeShapes Go.WideShapes Go.ChangeAt Go.RowKit Go.Maps
set_option linter.unusedVariables false

set_option maxRecDepth 1000000 in
set_option maxHeartbeats 4000000 in
theorem add_main (w0 : World) (cl ca re : Int) (a0 a1 a2 a3 a4 a5 a6 a7 : Option Addr) (n1 n3 n5 n7 c0 c1 c2 c3 c4 c5 c6 c7 : Nat) (L0 L2 L4 L6 : List ByteArray) (oc : ByteArray) (Z1 Z3 : Nat → Int) (A5 A7 : Nat → Option Addr) (T5 T7 : Nat → ByteArray) (HG : (Args6 w0 a0 a1 a2 a3 a4 a5 a6 a7 n1 n3 n5 n7 L0 L2 L4 L6 Z1 Z3 A5 A7 T5 T7)) (h0 : L0.length ≤ 1048576) (h1 : n1 ≤ 1048576) (h2 : L2.length ≤ 1048576) (h3 : n3 ≤ 1048576) (h4 : L4.length ≤ 1048576) (h5 : n5 ≤ 1048576) (h6 : L6.length ≤ 1048576) (h7 : n7 ≤ 1048576) (h8 : oc.size ≤ 1048576) :
    Calls Try.prog 5 #[.slice a0 L0.length c0, .slice a1 n1 c1, .slice a2 L2.length c2, .slice a3 n3 c3, .int .i64 cl, .int .i64 ca, .int .i64 re, .slice a4 L4.length c4, .slice a5 n5 c5, .slice a6 L6.length c6, .slice a7 n7 c7, .string oc] w0 (fun e w' => e = .returned (.bool true) ∧ Below w0.heap.size w0 w') := by
  have HBy := hid (bytes17_any w0 cl ca re a0 a1 a2 a3 a4 a5 a6 a7 n1 n3 n5 n7 c0 c1 c2 c3 c4 c5 c6 c7 L0 L2 L4 L6 A5 A7 T5 T7 oc HG.s0 HG.s2 HG.s4 HG.s6 HG.p5 HG.p7)
  have HDm := hid (addInDomain_any w0 a0 a1 a2 a3 a4 a5 a6 a7 n1 n3 n5 n7 c0 c1 c2 c3 c4 c5 c6 c7 L0 L2 L4 L6 A5 A7 T5 T7 oc h0 h1 h2 h3 h4 h5 h6 h7 h8 HG.s0 HG.s2 HG.s4 HG.s6 HG.p5 HG.p7)
  have HG' := hid HG
  clear HG
  go_enter Try.func5, Try.ntmps5
  go_upto_region 5 with (go_at_call 17; refine HBy.out.mono ?_; clear HBy; rintro e w1 ⟨b, rfl, rfl⟩; cases b)
  · go_ret
    exact ⟨rfl, Below.refl _ _⟩
  rename_i K1 h1' K0 h0'
  have HK : Hid (∀ (a : Act) (w : World), _ → K1 a w) := h1'
  clear h1'
  go_wp2_with (go_at_call 18; refine HDm.out.mono ?_; clear HDm; rintro e w2 ⟨b, rfl, rfl⟩; cases b)
  · go_ret
    exact ⟨rfl, Below.refl _ _⟩
  exact HK.out _ _ (add0 _ cl ca re a0 a1 a2 a3 a4 a5 a6 a7 n1 n3 n5 n7 c0 c1 c2 c3 c4 c5 c6 c7 L0 L2 L4 L6 oc Z1 Z3 A5 A7 T5 T7 HG' h0 h1 h2 h3 h4 h5 h6 h7 _ _ _ _ _ _ _ _ _ _ _ _ _ _ _ _ _ _ _ _ _ _ _ _ _ _ _ _ _ _ _ _ _ _ _ _ _ _ _ _ _ _ _ _ _ _ _ _ _ _ _ _ _ _ _ _ _ _ _ _ _ _ _ _ _ _ _ _ _ _ _ _ _ _ _ _ _ _ _ _ _ _ _ _ _ _ _ _ _ _ _ _ _ _ _ _ _ _ _ _ _ _ _ _ _ _ _ _ _ _ _ _ _ _ _ _ _ _ _ _ _ _ _ _ _ _ _ _ _ _ _ _ _ _ _ _ _ _ _ _ _ _ _ _ _ _ _ _ _ _ _ _ _ _ _ _ _ _ _ _ _ _ _ _ _ _ _ _ _ _ _ _ _ _ _ _ _ _ _ _ _ _ _ _ _ _ _ _ _ _ _ _ _ _ _ _ _ _ _ _ _ _ _ _ _ _ _ _ _ _ _ _ _ _ _ _ _ _ _ _ _ _ _ _ _ _ _ _ _ _ _ _ _ _ _ _ _ _ _ _ _ _ _ _ _ _ _ _ _ _)

theorem add_walk (w0 : World) (cl ca re : Int) (a0 a1 a2 a3 a4 a5 a6 a7 : Option Addr) (n1 n3 n5 n7 c0 c1 c2 c3 c4 c5 c6 c7 : Nat) (L0 L2 L4 L6 : List ByteArray) (oc : ByteArray) (Z1 Z3 : Nat → Int) (A5 A7 : Nat → Option Addr) (T5 T7 : Nat → ByteArray) (HG : (Args6 w0 a0 a1 a2 a3 a4 a5 a6 a7 n1 n3 n5 n7 L0 L2 L4 L6 Z1 Z3 A5 A7 T5 T7)) :
    Calls Try.prog 5 #[.slice a0 L0.length c0, .slice a1 n1 c1, .slice a2 L2.length c2, .slice a3 n3 c3, .int .i64 cl, .int .i64 ca, .int .i64 re, .slice a4 L4.length c4, .slice a5 n5 c5, .slice a6 L6.length c6, .slice a7 n7 c7, .string oc] w0 (fun e w' => e = .returned (.bool true) ∧ Below w0.heap.size w0 w') := by
  by_cases g0 : L0.length ≤ 1048576
  rotate_left
  · exact add_big w0 cl ca re a0 a1 a2 a3 a4 a5 a6 a7 n1 n3 n5 n7 c0 c1 c2 c3 c4 c5 c6 c7 L0 L2 L4 L6 oc Z1 Z3 A5 A7 T5 T7 HG (Or.inl (Nat.lt_of_not_le g0))
  by_cases g1 : n1 ≤ 1048576
  rotate_left
  · exact add_big w0 cl ca re a0 a1 a2 a3 a4 a5 a6 a7 n1 n3 n5 n7 c0 c1 c2 c3 c4 c5 c6 c7 L0 L2 L4 L6 oc Z1 Z3 A5 A7 T5 T7 HG (Or.inr (Or.inl ⟨g0, Nat.lt_of_not_le g1⟩))
  by_cases g2 : L2.length ≤ 1048576
  rotate_left
  · exact add_big w0 cl ca re a0 a1 a2 a3 a4 a5 a6 a7 n1 n3 n5 n7 c0 c1 c2 c3 c4 c5 c6 c7 L0 L2 L4 L6 oc Z1 Z3 A5 A7 T5 T7 HG (Or.inr (Or.inr (Or.inl ⟨g0, g1, Nat.lt_of_not_le g2⟩)))
  by_cases g3 : n3 ≤ 1048576
  rotate_left
  · exact add_big w0 cl ca re a0 a1 a2 a3 a4 a5 a6 a7 n1 n3 n5 n7 c0 c1 c2 c3 c4 c5 c6 c7 L0 L2 L4 L6 oc Z1 Z3 A5 A7 T5 T7 HG (Or.inr (Or.inr (Or.inr (Or.inl ⟨g0, g1, g2, Nat.lt_of_not_le g3⟩))))
  by_cases g4 : L4.length ≤ 1048576
  rotate_left
  · exact add_big w0 cl ca re a0 a1 a2 a3 a4 a5 a6 a7 n1 n3 n5 n7 c0 c1 c2 c3 c4 c5 c6 c7 L0 L2 L4 L6 oc Z1 Z3 A5 A7 T5 T7 HG (Or.inr (Or.inr (Or.inr (Or.inr (Or.inl ⟨g0, g1, g2, g3, Nat.lt_of_not_le g4⟩)))))
  by_cases g5 : n5 ≤ 1048576
  rotate_left
  · exact add_big w0 cl ca re a0 a1 a2 a3 a4 a5 a6 a7 n1 n3 n5 n7 c0 c1 c2 c3 c4 c5 c6 c7 L0 L2 L4 L6 oc Z1 Z3 A5 A7 T5 T7 HG (Or.inr (Or.inr (Or.inr (Or.inr (Or.inr (Or.inl ⟨g0, g1, g2, g3, g4, Nat.lt_of_not_le g5⟩))))))
  by_cases g6 : L6.length ≤ 1048576
  rotate_left
  · exact add_big w0 cl ca re a0 a1 a2 a3 a4 a5 a6 a7 n1 n3 n5 n7 c0 c1 c2 c3 c4 c5 c6 c7 L0 L2 L4 L6 oc Z1 Z3 A5 A7 T5 T7 HG (Or.inr (Or.inr (Or.inr (Or.inr (Or.inr (Or.inr (Or.inl ⟨g0, g1, g2, g3, g4, g5, Nat.lt_of_not_le g6⟩)))))))
  by_cases g7 : n7 ≤ 1048576
  rotate_left
  · exact add_big w0 cl ca re a0 a1 a2 a3 a4 a5 a6 a7 n1 n3 n5 n7 c0 c1 c2 c3 c4 c5 c6 c7 L0 L2 L4 L6 oc Z1 Z3 A5 A7 T5 T7 HG (Or.inr (Or.inr (Or.inr (Or.inr (Or.inr (Or.inr (Or.inr (Or.inl ⟨g0, g1, g2, g3, g4, g5, g6, Nat.lt_of_not_le g7⟩))))))))
  by_cases g8 : oc.size ≤ 1048576
  rotate_left
  · exact add_big w0 cl ca re a0 a1 a2 a3 a4 a5 a6 a7 n1 n3 n5 n7 c0 c1 c2 c3 c4 c5 c6 c7 L0 L2 L4 L6 oc Z1 Z3 A5 A7 T5 T7 HG (Or.inr (Or.inr (Or.inr (Or.inr (Or.inr (Or.inr (Or.inr (Or.inr (⟨g0, g1, g2, g3, g4, g5, g6, g7, Nat.lt_of_not_le g8⟩)))))))))
  exact add_main w0 cl ca re a0 a1 a2 a3 a4 a5 a6 a7 n1 n3 n5 n7 c0 c1 c2 c3 c4 c5 c6 c7 L0 L2 L4 L6 oc Z1 Z3 A5 A7 T5 T7 HG g0 g1 g2 g3 g4 g5 g6 g7 g8

end Go.Proofs.Qxb6602268a.M
