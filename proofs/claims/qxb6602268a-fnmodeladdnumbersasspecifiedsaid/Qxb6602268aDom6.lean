/- zzAddInDomain: a bool comes back. -/
import Derived.Test.Qxb6602268aLens
namespace Go.Proofs.Qxb6602268a.M
open Go.ChangeShapes Go.WideShapes Go.ChangeAt Go.RowKit Go.Maps
set_option linter.unusedVariables false

def RetBool (w w' : World) (e : Ending) : Prop := ∃ b : Bool, e = .returned (.bool b) ∧ w' = w

set_option maxRecDepth 100000 in
set_option maxHeartbeats 1600000 in
theorem addInDomain_any (w : World) (a0 a1 a2 a3 a4 a5 a6 a7 : Option Addr) (n1 n3 n5 n7 c0 c1 c2 c3 c4 c5 c6 c7 : Nat) (L0 L2 L4 L6 : List ByteArray) (A5 A7 : Nat → Option Addr) (T5 T7 : Nat → ByteArray) (oc : ByteArray)
    (h0 : L0.length ≤ 1048576) (h1 : n1 ≤ 1048576) (h2 : L2.length ≤ 1048576) (h3 : n3 ≤ 1048576) (h4 : L4.length ≤ 1048576) (h5 : n5 ≤ 1048576) (h6 : L6.length ≤ 1048576) (h7 : n7 ≤ 1048576) (h8 : oc.size ≤ 1048576)
    (s0 : Strs w a0 L0) (s2 : Strs w a2 L2) (s4 : Strs w a4 L4) (s6 : Strs w a6 L6) (p5 : Ptrs w a5 n5 A5 T5) (p7 : Ptrs w a7 n7 A7 T7) :
    Calls Try.prog 18 #[.slice a0 L0.length c0, .slice a1 n1 c1, .slice a2 L2.length c2, .slice a3 n3 c3, .slice a4 L4.length c4, .slice a5 n5 c5, .slice a6 L6.length c6, .slice a7 n7 c7, .string oc] w (fun e w' => RetBool w w' e) := by
  have H0 : Hid (∀ t : Nat, t ≤ 1048576 → Calls Try.prog 39 #[.int .i64 t, .slice a0 L0.length c0] w (fun e w' => RetSome w w' e)) := fun t h => addStringLens_any w a0 c0 t L0 h0 h s0
  have H2 : Hid (∀ t : Nat, t ≤ 1048576 → Calls Try.prog 39 #[.int .i64 t, .slice a2 L2.length c2] w (fun e w' => RetSome w w' e)) := fun t h => addStringLens_any w a2 c2 t L2 h2 h s2
  have H4 : Hid (∀ t : Nat, t ≤ 1048576 → Calls Try.prog 39 #[.int .i64 t, .slice a4 L4.length c4] w (fun e w' => RetSome w w' e)) := fun t h => addStringLens_any w a4 c4 t L4 h4 h s4
  have H6 : Hid (∀ t : Nat, t ≤ 1048576 → Calls Try.prog 39 #[.int .i64 t, .slice a6 L6.length c6] w (fun e w' => RetSome w w' e)) := fun t h => addStringLens_any w a6 c6 t L6 h6 h s6
  have H5 : Hid (∀ t : Nat, t ≤ 1048576 → Calls Try.prog 40 #[.int .i64 t, .slice a5 n5 c5] w (fun e w' => RetSome w w' e)) := fun t h => addPointedLens_any w a5 n5 c5 t A5 T5 h5 h p5
  have H7 : Hid (∀ t : Nat, t ≤ 1048576 → Calls Try.prog 40 #[.int .i64 t, .slice a7 n7 c7] w (fun e w' => RetSome w w' e)) := fun t h => addPointedLens_any w a7 n7 c7 t A7 T7 h7 h p7
  clear s0 s2 s4 s6 p5 p7
  have g0 : ¬ (L0.length : Int) > 1048576 := by omega
  have g1 : ¬ (n1 : Int) > 1048576 := by omega
  have g2 : ¬ (L2.length : Int) > 1048576 := by omega
  have g3 : ¬ (n3 : Int) > 1048576 := by omega
  have g4 : ¬ (L4.length : Int) > 1048576 := by omega
  have g5 : ¬ (n5 : Int) > 1048576 := by omega
  have g6 : ¬ (L6.length : Int) > 1048576 := by omega
  have g7 : ¬ (n7 : Int) > 1048576 := by omega
  have g8 : ¬ (oc.size : Int) > 1048576 := by omega
  obtain ⟨tt, htt⟩ : ∃ tt : Nat, (tt : Int) = (oc.size : Int) + 8 * (n1 + n3 + n5 + n7) + 16 * (L0.length + L2.length + L4.length + L6.length) := ⟨oc.size + 8 * (n1 + n3 + n5 + n7) + 16 * (L0.length + L2.length + L4.length + L6.length), by omega⟩
  have HTT : Hid ((tt : Int) = (oc.size : Int) + 8 * (n1 + n3 + n5 + n7) + 16 * (L0.length + L2.length + L4.length + L6.length)) := htt
  by_cases hb : tt ≤ 1048576
  · have hb' : ¬ ((oc.size : Int) + 8 * (n1 + n3 + n5 + n7) + 16 * (L0.length + L2.length + L4.length + L6.length)) > 1048576 := by omega
    clear htt
    go_enter Try.func18, Try.ntmps18
    go_wp2_with (first | (go_at_call 39; rw [← HTT.out]; refine (H0.out tt hb).mono ?_; clear H0; rintro e w1 ⟨t1, rfl, ht1, rfl⟩) | (go_at_call 39; refine (H2.out t1 (by omega)).mono ?_; clear H2; rintro e w2 ⟨t2, rfl, ht2, rfl⟩) | (go_at_call 39; refine (H4.out t2 (by omega)).mono ?_; clear H4; rintro e w3 ⟨t3, rfl, ht3, rfl⟩) | (go_at_call 39; refine (H6.out t3 (by omega)).mono ?_; clear H6; rintro e w4 ⟨t4, rfl, ht4, rfl⟩) | (go_at_call 40; refine (H5.out t4 (by omega)).mono ?_; clear H5; rintro e w5 ⟨t5, rfl, ht5, rfl⟩) | (go_at_call 40; refine (H7.out t5 (by omega)).mono ?_; clear H7; rintro e w6 ⟨t6, rfl, ht6, rfl⟩))
    all_goals (go_ret; exact ⟨_, rfl, rfl⟩)
  · have hb' : ((oc.size : Int) + 8 * (n1 + n3 + n5 + n7) + 16 * (L0.length + L2.length + L4.length + L6.length)) > 1048576 := by omega
    clear htt
    go_enter Try.func18, Try.ntmps18
    go_wp2_with fail
    go_ret
    exact ⟨_, rfl, rfl⟩
end Go.Proofs.Qxb6602268a.M
