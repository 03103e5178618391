/- zzBytes of FnModelAddNumbersAsSpecified: a bool comes back. -/
import Derived.Test.Qxb6602268aBy1
namespace Go.Proofs.Qxb6602268a.M
open Go.ChangeShapes Go.WideShapes Go.ChangeAt Go.RowKit Go.Maps
set_option linter.unusedVariables false

set_option maxRecDepth 1000000 in
set_option maxHeartbeats 4000000 in
theorem bytes17_any (w : World) (cl ca re : Int) (a0 a1 a2 a3 a4 a5 a6 a7 : Option Addr) (n1 n3 n5 n7 c0 c1 c2 c3 c4 c5 c6 c7 : Nat) (L0 L2 L4 L6 : List ByteArray) (A5 A7 : Nat → Option Addr) (T5 T7 : Nat → ByteArray) (oc : ByteArray) (s0 : Strs w a0 L0) (s2 : Strs w a2 L2) (s4 : Strs w a4 L4) (s6 : Strs w a6 L6) (p5 : Ptrs w a5 n5 A5 T5) (p7 : Ptrs w a7 n7 A7 T7) :
    Calls Try.prog 17 #[.slice a0 L0.length c0, .slice a1 n1 c1, .slice a2 L2.length c2, .slice a3 n3 c3, .int .i64 cl, .int .i64 ca, .int .i64 re, .slice a4 L4.length c4, .slice a5 n5 c5, .slice a6 L6.length c6, .slice a7 n7 c7, .string oc] w (fun e w' => RetBool w w' e) := by
  have HS : Hid (Strs w a0 L0 ∧ Strs w a2 L2 ∧ Strs w a4 L4 ∧ Strs w a6 L6 ∧ Ptrs w a5 n5 A5 T5 ∧ Ptrs w a7 n7 A7 T7) := ⟨s0, s2, s4, s6, p5, p7⟩
  clear s0 s2 s4 s6 p5 p7
  go_enter Try.func17, Try.ntmps17
  go_upto_region 1 with fail
  rename_i K1 h1
  have HK : Hid (∀ (a : Act) (w : World), _ → K1 a w) := h1
  clear h1
  go_wp2_with fail
  exact HK.out _ _ (by1 _ cl ca re a0 a1 a2 a3 a4 a5 a6 a7 n1 n3 n5 n7 c0 c1 c2 c3 c4 c5 c6 c7 L0 L2 L4 L6 A5 A7 T5 T7 oc HS.out.1 HS.out.2.1 HS.out.2.2.1 HS.out.2.2.2.1 HS.out.2.2.2.2.1 HS.out.2.2.2.2.2 0 (by omega) _ _ _ _ _ _ _ _ _ _ _ _ _ _ _ _ _ _ _ _ _ _ _ _ _ _ _ _ _ _ _ _ _ _ _ _ _ _ _ _ _ _ _ _ _ _ _ _ _ _ _ _ _ _ _ _ _ _ _ _ _ _ _ _ _ _ _ _ _ _ _ _ _ _ _ _ _ _ _ _ _ _ _ _ _ _ _ _ _ _ _ _ _ _ _ _ _ _ _ _ _ _ _ _ _ _ _ _ _ _ _ _ _ _ _ _ _ _ _ _ _ _ _ _ _ _ _ _ _ _ _ _ _ _ _ _ _ _ _ _ _ _ _ _ _ _ _ _ _ _ _ _ _ _ _ _ _ _ _ _ _ _ _ _ _ _ _ _ _ _ _ _ _ _ _ _ _ _ _ _ _ _ _ _ _ _ _ _ _ _ _ _ _ _ _ _ _ _ _ _ _ _ _ _ _ _ _ _ _ _ _ _ _ _ _ _ _ _ _ _ _ _ _ _ _ _ _ _ _ _ _ _ _ _ _ _ _ _ _ _ _ _ _ _)

end Go.Proofs.Qxb6602268a.M
