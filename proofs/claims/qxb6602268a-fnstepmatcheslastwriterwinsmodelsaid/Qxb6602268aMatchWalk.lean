/- FnStepMatchesLastWriterWinsModel: its walk. -/
import Derived.Test.Qxb6602268aMatch0
namespace Go.Proofs.Qxb6602268a.M
open Go.ChangeShapes Go.WideShapes Go.ChangeAt Go.RowKit
set_option linter.unusedVariables false

set_option maxHeartbeats 800000 in
theorem bytes7_any (ps h r1 r2 : Int) (u : Bool) (a a1 a2 a3 a4 : Option Addr) (n c n1 c1 n2 c2 n3 c3 n4 c4 : Nat) (A : Nat → Option Addr) (L C : Nat → Nat) (Z : Nat → Nat → Int) (w : World) (hp : Pages w a n A L C Z)
    (hn : n ≤ maxLen) (hL : ∀ r, r < n → L r ≤ maxLen) (h1 : n1 ≤ maxLen) (h2 : n2 ≤ maxLen) (h3 : n3 ≤ maxLen) (h4 : n4 ≤ maxLen) :
    Calls Try.prog 7 #[.int .i32 ps, .slice a n c, .int .u64 h, .slice a1 n1 c1, .slice a2 n2 c2, .slice a3 n3 c3, .slice a4 n4 c4, .int .i64 r1, .int .i64 r2, .bool u] w
      fun e w' => SomeBool e (fun _ => True) ∧ w' = w := by
  unfold maxLen at hn hL h1 h2 h3 h4
  go_enter Try.func7, Try.ntmps7
  go_wp2
  · go_ret
    exact ⟨⟨_, rfl, trivial⟩, rfl⟩
  · go_loop [21, 22] (fun z i => ∃ (k : Nat) (q : Int), k ≤ n ∧ 0 ≤ q ∧ q ≤ 1048576 ∧ i = .int .i64 k ∧ z = .int .i64 q) (fun _ i => n - (intOf i).toNat)
    case atStart => exact ⟨0, _, Nat.zero_le _, by omega, by omega, rfl, rfl⟩
    case round =>
      obtain ⟨k, q, hk, q0, q1, rfl, rfl⟩ := hrel
      by_cases hlt : k < n
      · obtain ⟨b, o, rfl, hc⟩ := hp.top (by omega)
        have hc' := hc k hlt
        have hLk := hL k hlt
        clear hc hL
        go_wp2
        · go_ret
          exact ⟨⟨_, rfl, trivial⟩, rfl⟩
        · go_ret
          exact ⟨⟨_, rfl, trivial⟩, rfl⟩
        · go_round
          case rel => exact ⟨k + 1, q + L k, by omega, by omega, by omega, by go_num, rfl⟩
          case measure => simp [intOf]; omega
      · go_wp2
        all_goals go_ret
        all_goals exact ⟨⟨_, rfl, trivial⟩, rfl⟩

/-- What is known of the ten arguments. -/
structure MArgs (w : World) (ps h : Int) (a a1 a2 a3 a4 : Option Addr) (n n1 c1 n2 c2 n3 c3 n4 c4 : Nat) (A : Nat → Option Addr) (L C : Nat → Nat) (Z : Nat → Nat → Int) (RK RV WK WV : Nat → Int) : Prop where
  hp : Pages w a n A L C Z
  i1 : Ints w a1 n1 RK
  i2 : Ints w a2 n2 RV
  i3 : Ints w a3 n3 WK
  i4 : Ints w a4 n4 WV
  k1 : n1 ≤ c1
  k2 : n2 ≤ c2
  k3 : n3 ≤ c3
  k4 : n4 ≤ c4
  hr : ∀ i, i < n1 → -2147483648 ≤ RK i ∧ RK i ≤ 2147483647
  hw : ∀ i, i < n3 → -2147483648 ≤ WK i ∧ WK i ≤ 2147483647
  hps : ps ≤ 2147483647
  hn : n ≤ maxLen
  hL : ∀ r, r < n → L r ≤ maxLen
  h1 : n1 ≤ maxLen
  h2 : n2 ≤ maxLen
  h3 : n3 ≤ maxLen
  h4 : n4 ≤ maxLen
  hv : ∀ i, i < n4 → -2147483648 ≤ WV i ∧ WV i ≤ 2147483647
  hu : U h

set_option maxRecDepth 100000 in
set_option maxHeartbeats 2000000 in
theorem match_big (w : World) (ps h r1 r2 : Int) (u : Bool) (a a1 a2 a3 a4 : Option Addr) (n c n1 c1 n2 c2 n3 c3 n4 c4 : Nat) (A : Nat → Option Addr) (L C : Nat → Nat) (Z : Nat → Nat → Int) (RK RV WK WV : Nat → Int)
    (G : MArgs w ps h a a1 a2 a3 a4 n n1 c1 n2 c2 n3 c3 n4 c4 A L C Z RK RV WK WV) (hbig : 1048576 < n ∨ 1048576 < n1 ∨ 1048576 < n2 ∨ 1048576 < n3 ∨ 1048576 < n4) :
    Calls Try.prog 3 #[.int .i32 ps, .slice a n c, .int .u64 h, .slice a1 n1 c1, .slice a2 n2 c2, .slice a3 n3 c3, .slice a4 n4 c4, .int .i64 r1, .int .i64 r2, .bool u] w
      fun e w' => e = .returned (.bool true) ∧ Below w.heap.size w w' := by
  have HBy := bytes7_any ps h r1 r2 u a a1 a2 a3 a4 n c n1 c1 n2 c2 n3 c3 n4 c4 A L C Z w G.hp G.hn G.hL G.h1 G.h2 G.h3 G.h4
  clear G
  have hcase : 1048576 < n ∨ (n ≤ 1048576 ∧ 1048576 < n1) ∨ (n ≤ 1048576 ∧ n1 ≤ 1048576 ∧ 1048576 < n2) ∨ (n ≤ 1048576 ∧ n1 ≤ 1048576 ∧ n2 ≤ 1048576 ∧ 1048576 < n3) ∨ (n ≤ 1048576 ∧ n1 ≤ 1048576 ∧ n2 ≤ 1048576 ∧ n3 ≤ 1048576 ∧ 1048576 < n4) := by omega
  clear hbig
  rcases hcase with g0 | ⟨g0, g1⟩ | ⟨g0, g1, g2⟩ | ⟨g0, g1, g2, g3⟩ | ⟨g0, g1, g2, g3, g4⟩
  all_goals
    go_enter Try.func3, Try.ntmps3
    go_wp2_with fail
    refine HBy.mono ?_
    rintro e w ⟨⟨b, rfl, _⟩, rfl⟩
    cases b
    all_goals
      go_wp2_with fail
      go_ret
      exact ⟨rfl, Below.refl _ _⟩

set_option maxRecDepth 100000 in
set_option maxHeartbeats 4000000 in
theorem match_main (w : World) (ps h r1 r2 : Int) (u : Bool) (a a1 a2 a3 a4 : Option Addr) (n c n1 c1 n2 c2 n3 c3 n4 c4 : Nat) (A : Nat → Option Addr) (L C : Nat → Nat) (Z : Nat → Nat → Int) (RK RV WK WV : Nat → Int)
    (G : MArgs w ps h a a1 a2 a3 a4 n n1 c1 n2 c2 n3 c3 n4 c4 A L C Z RK RV WK WV) (b0 : n ≤ 1048576) (b1 : n1 ≤ 1048576) (b2 : n2 ≤ 1048576) (b3 : n3 ≤ 1048576) (b4 : n4 ≤ 1048576) :
    Calls Try.prog 3 #[.int .i32 ps, .slice a n c, .int .u64 h, .slice a1 n1 c1, .slice a2 n2 c2, .slice a3 n3 c3, .slice a4 n4 c4, .int .i64 r1, .int .i64 r2, .bool u] w
      fun e w' => e = .returned (.bool true) ∧ Below w.heap.size w w' := by
  have HBy := bytes7_any ps h r1 r2 u a a1 a2 a3 a4 n c n1 c1 n2 c2 n3 c3 n4 c4 A L C Z w G.hp G.hn G.hL G.h1 G.h2 G.h3 G.h4
  have HDm := inDomain_any ps a a1 a2 a3 a4 n c n1 c1 n2 c2 n3 c3 n4 c4 A L C Z RK WK w G.hp G.i1 G.i3 G.hr G.hw G.hps b0 G.hL b1 b2 b3 b4
  have HG : Hid (MArgs w ps h a a1 a2 a3 a4 n n1 c1 n2 c2 n3 c3 n4 c4 A L C Z RK RV WK WV) := G
  clear G
  go_enter Try.func3, Try.ntmps3
  go_wp2_with fail
  refine HBy.mono ?_
  rintro e w ⟨⟨b, rfl, _⟩, rfl⟩
  cases b
  · go_wp2_with fail
    go_ret
    exact ⟨rfl, Below.refl _ _⟩
  clear HBy
  go_upto_region 5 with fail
  rename_i K1 h1 K0 h0
  have HK : Hid (∀ (a : Act) (w : World), _ → K1 a w) := h1
  clear h1
  go_wp2_with fail
  refine HDm.mono ?_
  rintro e w' ⟨⟨b, rfl, hdom⟩, nq, rfl⟩
  clear HDm
  cases b
  · go_wp2_with fail
    go_ret
    exact ⟨rfl, below_drewN (Below.refl _ _)⟩
  have HD : Hid (Dom ps n L n1 n2 n3 n4 RK WK) := hdom rfl
  clear hdom
  go_wp2_with fail
  have g := HG.out
  exact HK.out _ _ (mcopy1 w _ ps h r1 r2 u a a1 a2 a3 a4 n c n1 c1 n2 c2 n3 c3 n4 c4 A L C Z RK RV WK WV
    ⟨g.hp.drewN _, g.i1.drewN _, g.i2.drewN _, g.i3.drewN _, g.i4.drewN _, g.k1, g.k2, g.k3, g.k4, fun i hi => (g.hr i hi).2, fun i hi => (g.hw i hi).2, g.hps, HD.out⟩ (below_drewN (Below.refl _ _)) ⟨fun i hi => (g.hw i hi).1, g.hv, g.hu⟩ _ _ _ _ _ _ _ _ _ _ _ _ _ _ _ _ _ _ _ _ _ _ _ _ _ _ _ _ _ _ _ _ _ _ _ _ _ _ _ _ _ _ _ _ _ _ _ _ _ _ _ _ _ _ _ _ _ _ _ _ _ _ _ _ _ _ _ _ _ _ _ _ _ _ _ _ _ _ _ _ _ _ _ _ _ _ _ _ _ _ _ _ _ _ _ _ _ _ _ _ _ _ _ _ _ _ _ _ _ _ _ _ _ _ _ _ _ _ _ _ _ _ _ _ _ _ _ _ _ _ _ _ _ _ _ _ _ _ _ _ _ _ _ _ _ _ _ _ _ _ _ _ _ _ _ _ _ _ _ _ _ _ _ _ _ _ _ _ _ _ _ _ _ _ _ _ _ _ _ _ _ _ _ _ _ _ _ _ _ _ _ _ _ _ _ _ _ _ _ _ _ _ _ _ _ _ _ _ _ _ _ _ _ _ _ _ _ _ _ _ _ _ _ _ _ _ _ _ _ _ _ _ _ _ _ _ _ _ _ _ _ _ _ _ _ _ _ _ _ _ _ _ _ _ _ _ _ _ _ _ _ _ _)

theorem match_walk (w : World) (ps h r1 r2 : Int) (u : Bool) (a a1 a2 a3 a4 : Option Addr) (n c n1 c1 n2 c2 n3 c3 n4 c4 : Nat) (A : Nat → Option Addr) (L C : Nat → Nat) (Z : Nat → Nat → Int) (RK RV WK WV : Nat → Int)
    (G : MArgs w ps h a a1 a2 a3 a4 n n1 c1 n2 c2 n3 c3 n4 c4 A L C Z RK RV WK WV) :
    Calls Try.prog 3 #[.int .i32 ps, .slice a n c, .int .u64 h, .slice a1 n1 c1, .slice a2 n2 c2, .slice a3 n3 c3, .slice a4 n4 c4, .int .i64 r1, .int .i64 r2, .bool u] w
      fun e w' => e = .returned (.bool true) ∧ Below w.heap.size w w' := by
  by_cases hbig : 1048576 < n ∨ 1048576 < n1 ∨ 1048576 < n2 ∨ 1048576 < n3 ∨ 1048576 < n4
  · exact match_big w ps h r1 r2 u a a1 a2 a3 a4 n c n1 c1 n2 c2 n3 c3 n4 c4 A L C Z RK RV WK WV G hbig
  · exact match_main w ps h r1 r2 u a a1 a2 a3 a4 n c n1 c1 n2 c2 n3 c3 n4 c4 A L C Z RK RV WK WV G (by omega) (by omega) (by omega) (by omega) (by omega)

end Go.Proofs.Qxb6602268a.M
