/- FnStringValueMatchesConcatenationOverScript: its walk. -/
import Derived.Test.Qxb6002359aLoop1
namespace Go.Proofs.Qxb6002359a.M
open Go.RowKit Go.ChangeShapes Go.WideShapes Go.ChangeAt
set_option linter.unusedVariables false
set_option linter.unusedSimpArgs false

set_option maxRecDepth 1000000 in
set_option maxHeartbeats 4000000 in
theorem script_main (w0 : World) (a a2 : Option Addr) (n n2 c c2 : Nat) (S : Nat → BA) (Z : Nat → Int) (hs : Strs w0 a n S) (hz : Bytes w0 a2 n2 Z) (hZ : ∀ i, i < n2 → 0 ≤ Z i ∧ Z i ≤ 255) (hm : n ≤ maxLen) (hn : n ≤ 1024) (hn2 : n2 ≤ 1024) :
    Calls Try.prog 5 #[.slice a n c, .slice a2 n2 c2] w0 (fun e w' => e = .returned (.bool true) ∧ Below w0.heap.size w0 w') := by
  have C11 := hid (bytes11_any w0 a a2 n c n2 c2 S hs)
  have C12 := hid (strBytes_any w0 a n c S hm hs)
  have C13 := hid (cloneStrings_any w0 a n c S hn hs)
  have HB := hid hz
  have HZ := hid hZ
  obtain ⟨i0, hi, hz0, hz1, hz2⟩ := info_parts info41
  have g1 : ¬ (n : Int) > 1024 := by omega
  have g2 : ¬ (n2 : Int) > 1024 := by omega
  clear hs hz hm hZ
  go_enter Try.func5, Try.ntmps5
  go_upto_region 10 with (first | (go_at_call 11; refine C11.out.mono ?_; clear C11; rintro e w1 ⟨b, rfl, rfl⟩; cases b) | (go_at_call 12; refine C12.out.mono ?_; clear C12; rintro e w2 ⟨zz, rfl, rfl⟩) | (go_at_call 13; refine C13.out.mono ?_; clear C13; rintro e w3 ⟨a', c', rfl, V3, b3⟩; have H3 := hid V3; have B3 := hid b3; have C14 := hid (cloneBytes_any w3 a2 n2 c2 Z hn2 (Vals.below HB.out b3)); clear V3 b3) | (go_at_call 14; refine C14.out.mono ?_; clear C14; rintro e w4 ⟨a2', c2', rfl, V4, b4⟩; have H3' := hid (Vals.below H3.out b4); have H4 := hid V4; have B4 := hid (below_then B3.out b4); clear V4 b4 H3 B3) | (at_make; refine wpList_make_own _ rfl _ _ 35 rfl w4.heap.size 41 i0 (.agg #[.pointer none, .string ByteArray.empty, .int .i64 0]) 3 Try.underlying35 hi hz0 hz1 .i64 .i64 _ (n2 + 1) rfl rfl rfl (by rw [hz2]; omega) (by unfold maxLen; omega) (by simp) ?_; intro w5 own5 g5))
  · go_ret
    exact ⟨rfl, Below.refl _ _⟩
  · go_ret
    exact ⟨rfl, Below.refl _ _⟩
  rename_i K1 hh1
  have HK : Hid (∀ (a : Act) (w : World), _ → K1 a w) := hh1
  clear hh1
  have HLP := hid (Lp.mk (w1 := w4) (wr := w5) (E := []) own5 (fun e he => by cases he) (fun e he => by cases he) ⟨g5.os, g5.tape, g5.output, g5.size, fun i hi => g5.block i hi (by simp)⟩)
  clear own5 g5
  go_wp2_with fail
  exact HK.out _ _ (main_loop _ w4 w5 a' a2' _ n n2 c' c2' _ S Z hn hn2 H3' H4 HZ.out HLP B4 _ _ _ _ _ _ _ _ _ _ _ _ _ _ _ _ _ _ _ _ _ _ _ _ _ _ _ _ _ _ _ _ _ _ _ _ _ _ _ _ _ _ _ _ _ _ _ _ _ _ _ _ _ _ _ _ _ _ _ _ _ _ _ _ _ _ _ _ _ _ _ _ _ _ _ _ _ _ _ _ _ _ _ _ _ _ _ _ _ _ _ _ _ _ _ _ _ _ _ _ _ _ _ _ _ _ _ _ _ _ _ _ _ _ _ _ _ _ _ _ _ _ _ _ _ _ _ _ _ _ _ _ _ _ _ _ _ _ _ _ _ _ _ _ _ _ _ _ _ _ _ _ _ _ _ _ _ _ _ _ _ _ _ _ _ _ _ _ _ _ _ _ _ _ _ _ _ _ _ _ _ _ _ _ _ _ _ _ _)

set_option maxRecDepth 1000000 in
set_option maxHeartbeats 4000000 in
theorem script_big (w0 : World) (a a2 : Option Addr) (n n2 c c2 : Nat) (S : Nat → BA) (hs : Strs w0 a n S) (hm : n ≤ maxLen) (hb : 1024 < n ∨ n ≤ 1024 ∧ 1024 < n2) :
    Calls Try.prog 5 #[.slice a n c, .slice a2 n2 c2] w0 (fun e w' => e = .returned (.bool true) ∧ Below w0.heap.size w0 w') := by
  have C11 := hid (bytes11_any w0 a a2 n c n2 c2 S hs)
  have C12 := hid (strBytes_any w0 a n c S hm hs)
  clear hs hm
  rcases hb with g1 | ⟨g1, g2⟩
  · have g1' : (n : Int) > 1024 := by omega
    go_enter Try.func5, Try.ntmps5
    go_wp2_with (first | (go_at_call 11; refine C11.out.mono ?_; clear C11; rintro e w1 ⟨b, rfl, rfl⟩; cases b) | (go_at_call 12; refine C12.out.mono ?_; clear C12; rintro e w2 ⟨zz, rfl, rfl⟩))
    all_goals (go_ret; exact ⟨rfl, Below.refl _ _⟩)
  · have g1' : ¬ (n : Int) > 1024 := by omega
    have g2' : (n2 : Int) > 1024 := by omega
    go_enter Try.func5, Try.ntmps5
    go_wp2_with (first | (go_at_call 11; refine C11.out.mono ?_; clear C11; rintro e w1 ⟨b, rfl, rfl⟩; cases b) | (go_at_call 12; refine C12.out.mono ?_; clear C12; rintro e w2 ⟨zz, rfl, rfl⟩))
    all_goals (go_ret; exact ⟨rfl, Below.refl _ _⟩)

theorem script_walk (w0 : World) (a a2 : Option Addr) (n n2 c c2 : Nat) (S : Nat → BA) (Z : Nat → Int) (hs : Strs w0 a n S) (hz : Bytes w0 a2 n2 Z) (hZ : ∀ i, i < n2 → 0 ≤ Z i ∧ Z i ≤ 255) (hm : n ≤ maxLen) :
    Calls Try.prog 5 #[.slice a n c, .slice a2 n2 c2] w0 (fun e w' => e = .returned (.bool true) ∧ Below w0.heap.size w0 w') := by
  by_cases h1 : n ≤ 1024
  · by_cases h2 : n2 ≤ 1024
    · exact script_main w0 a a2 n n2 c c2 S Z hs hz hZ hm h1 h2
    · exact script_big w0 a a2 n n2 c c2 S hs hm (Or.inr ⟨h1, by omega⟩)
  · exact script_big w0 a a2 n n2 c c2 S hs hm (Or.inl (by omega))

end Go.Proofs.Qxb6002359a.M
