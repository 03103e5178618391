/- The walk of ZZStep. -/
import Derived.Test.Qxb6602268aStep
namespace Go.Proofs.Qxb6602268a.M
open Go.ChangeShapes Go.WideShapes Go.ChangeAt Go.RowKit
set_option linter.unusedVariables false

/-- What step hands back: the given pages; or new ones where it has written. -/
def Out (w0 w' : World) (a : Option Addr) (n c nr nw : Nat) (A : Nat → Option Addr) (L C : Nat → Nat) (Z : Nat → Nat → Int) (ps h : Int) (RK RV WK WV : Nat → Int) (a' : Option Addr) (c' : Nat) (h' : Int) : Prop :=
  ((rh Z ps RK RV nr = false ∨ nw = 0) ∧ a' = a ∧ c' = c ∧ h' = h) ∨
  (rh Z ps RK RV nr = true ∧ 0 < nw ∧ h' = Hs Z ps WK WV h nw ∧ ∃ (N : Nat) (Gb Gc : Nat → Nat) (F : Nat → Value), a' = some ⟨N, 0, none⟩ ∧ Fin w0 w' N n c' A L C Z ps WK WV nw Gb Gc F)

theorem step_any {w : World} {mb ob rg wg : Nat} {ps h : Int} {a : Option Addr} {n c nr nw : Nat} {A : Nat → Option Addr} {L C : Nat → Nat} {Z : Nat → Nat → Int} {RK RV WK WV : Nat → Int}
    (I : StepIn w mb ob rg wg ps h a n c nr nw A L C Z RK RV WK WV) :
    Calls Try.prog 37 #[.pointer (some ⟨mb, 0, none⟩), .agg #[.slice a n c, .int .u64 h], .pointer (some ⟨ob, 0, none⟩)] w
      fun e w' => ∃ (a' : Option Addr) (c' : Nat) (h' : Int), e = .returned (.tuple #[.bool (rh Z ps RK RV nr), .agg #[.slice a' n c', .int .u64 h']]) ∧ Out w w' a n c nr nw A L C Z ps h RK RV WK WV a' c' h' ∧ Below w.heap.size w w' := by
  cases hh : rh Z ps RK RV nr
  · refine (step_no w mb ob rg wg ps h a n c nr nw A L C Z RK RV WK WV I hh).mono ?_
    rintro e w' ⟨he, hb⟩
    exact ⟨a, c, h, he, .inl ⟨.inl hh, rfl, rfl, rfl⟩, hb⟩
  · by_cases hw : nw = 0
    · refine (step_idle w mb ob rg wg ps h a n c nr nw A L C Z RK RV WK WV I hh (by rw [beq_iff_eq]; omega)).mono ?_
      rintro e w' ⟨he, hb⟩
      exact ⟨a, c, h, he, .inl ⟨.inr hw, rfl, rfl, rfl⟩, hb⟩
    · have hn0 : 0 < n := by
        have := (kin_iff _ _ _ _).1 (I.wk 0 (by omega))
        omega
      obtain ⟨cb, e, _⟩ := I.cp.top hn0
      subst e
      refine (step_go w mb ob rg wg cb ps h n c nr nw A L C Z RK RV WK WV I hh (by omega) hn0).mono ?_
      rintro e w' ⟨N, nc, Gb, Gc, F, he, hF⟩
      exact ⟨_, nc, _, he, .inr ⟨hh, by omega, rfl, N, Gb, Gc, F, rfl, hF⟩, hF.bel⟩

theorem Fin.later {w0 w1 w2 : World} {N n nc : Nat} {A : Nat → Option Addr} {L C : Nat → Nat} {Z : Nat → Nat → Int} {ps : Int} {WK WV : Nat → Int} {nw : Nat} {Gb Gc : Nat → Nat} {F : Nat → Value}
    (h : Fin w0 w1 N n nc A L C Z ps WK WV nw Gb Gc F) (hb : Below w1.heap.size w1 w2) : Fin w0 w2 N n nc A L C Z ps WK WV nw Gb Gc F :=
  ⟨h.bN, h.le, rowIs_below h.nn hb h.nn.lt, h.f, fun p hp hh => by
    obtain ⟨g1, g2, G, g3, g4⟩ := h.g p hp hh
    exact ⟨g1, g2, G, rowIs_below g3 hb g3.lt, g4⟩, h.bel.trans (hb.mono h.bel.size)⟩

theorem Fin.earlier {w w0 w1 : World} {N n nc : Nat} {A : Nat → Option Addr} {L C : Nat → Nat} {Z : Nat → Nat → Int} {ps : Int} {WK WV : Nat → Int} {nw : Nat} {Gb Gc : Nat → Nat} {F : Nat → Value}
    (h : Fin w0 w1 N n nc A L C Z ps WK WV nw Gb Gc F) (hb : Below w.heap.size w w0) : Fin w w1 N n nc A L C Z ps WK WV nw Gb Gc F :=
  ⟨Nat.le_trans hb.size h.bN, h.le, h.nn, h.f, fun p hp hh => by
    obtain ⟨g1, g2, G, g3, g4⟩ := h.g p hp hh
    exact ⟨Nat.le_trans hb.size g1, g2, G, g3, g4⟩, hb.trans (h.bel.mono hb.size)⟩

theorem Out.frame {w w0 w1 w2 : World} {a : Option Addr} {n c nr nw : Nat} {A : Nat → Option Addr} {L C : Nat → Nat} {Z : Nat → Nat → Int} {ps h : Int} {RK RV WK WV : Nat → Int} {a' : Option Addr} {c' : Nat} {h' : Int}
    (H : Out w0 w1 a n c nr nw A L C Z ps h RK RV WK WV a' c' h') (h0 : Below w.heap.size w w0) (h2 : Below w1.heap.size w1 w2) : Out w w2 a n c nr nw A L C Z ps h RK RV WK WV a' c' h' := by
  rcases H with H | ⟨e1, e2, e3, N, Gb, Gc, F, e4, hF⟩
  · exact .inl H
  · exact .inr ⟨e1, e2, e3, N, Gb, Gc, F, e4, (hF.later h2).earlier h0⟩

set_option maxRecDepth 100000 in
set_option maxHeartbeats 2000000 in
theorem zzstep_any (w : World) (ps h r1 r2 : Int) (u : Bool) (a a1 a2 a3 a4 : Option Addr) (n c nr c1 c2 nw c3 c4 : Nat) (A : Nat → Option Addr) (L C : Nat → Nat) (Z : Nat → Nat → Int) (RK RV WK WV : Nat → Int)
    (cp : Cp w a n A L C Z) (i1 : Ints w a1 nr RK) (i2 : Ints w a2 nr RV) (i3 : Ints w a3 nw WK) (i4 : Ints w a4 nw WV)
    (hn : n ≤ 131072) (hL : ∀ r, r < n → L r ≤ 131072) (h1 : nr ≤ 131072) (h2 : nw ≤ 131072) (ps1 : 1 ≤ ps) (ps2 : ps ≤ 2147483647)
    (rk : ∀ i, i < nr → kin n L ps (RK i) = true) (rk2 : ∀ i, i < nr → RK i ≤ 2147483647) (wk : ∀ i, i < nw → kin n L ps (WK i) = true) (wk2 : ∀ i, i < nw → WK i ≤ 2147483647) :
    Calls Try.prog 11 #[.int .i32 ps, .slice a n c, .int .u64 h, .slice a1 nr c1, .slice a2 nr c2, .slice a3 nw c3, .slice a4 nw c4, .int .i64 r1, .int .i64 r2, .bool u] w
      fun e w' => ∃ (a' : Option Addr) (c' : Nat) (h' : Int), e = .returned (.tuple #[.bool (rh Z ps RK RV nr), .slice a' n c', .int .u64 h']) ∧ Out w w' a n c nr nw A L C Z ps h RK RV WK WV a' c' h' ∧ Below w.heap.size w w' := by
  have hB1 : Below w.heap.size w (w.alloc (.cells #[.slice none 0 0, .map none, .map none, .int .i32 ps, .int .i32 0] 70)) := (Below.refl _ _).alloc (Nat.le_refl _) _
  have HP1 : Hid (Calls Try.prog 36 _ _ _) := pack_any a1 a2 nr c1 c2 RK RV _ (i1.below hB1) (i2.below hB1) h1
  go_enter Try.func11, Try.ntmps11
  go_wp2_with fail
  refine HP1.out.mono ?_
  rintro e w1 ⟨rfl, hr1, hb1⟩
  have hb1' : Below w.heap.size w w1 := hB1.trans (hb1.mono (by simp))
  have m1 : w1.cell? ⟨w.heap.size, 3, none⟩ = some (.int .i32 ps) := (hb1.cell (by simp)).trans (by simp)
  have HP2 : Hid (Calls Try.prog 36 _ _ _) := pack_any a3 a4 nw c3 c4 WK WV _ (i3.below hb1') (i4.below hb1') h2
  have e1 : (w.alloc (.cells #[.slice none 0 0, .map none, .map none, .int .i32 ps, .int .i32 0] 70)).heap.size = w.heap.size + 1 := by simp
  rw [e1] at hr1 hb1
  have HR1 : Hid (w1.rowIs (w.heap.size + 1) 91 (nr * 2) (pairF RK RV)) := hr1
  have HB1 : Hid (Below w.heap.size w w1) := hb1'
  clear hb1 hb1' hr1 hB1 HP1 e1
  go_wp2_with fail
  refine HP2.out.mono ?_
  rintro e w2 ⟨rfl, hr2, hb2⟩
  have HB2 : Hid (Below w.heap.size w w2) := HB1.out.trans (hb2.mono HB1.out.size)
  have m2 : w2.cell? ⟨w.heap.size, 3, none⟩ = some (.int .i32 ps) := (hb2.cell (lt_of_cell m1)).trans m1
  have HR2 : Hid (w2.rowIs (w.heap.size + 1) 91 (nr * 2) (pairF RK RV)) := rowIs_below HR1.out hb2 HR1.out.lt
  have HR3 : Hid (w2.rowIs w1.heap.size 91 (nw * 2) (pairF WK WV)) := hr2
  clear hr2 hb2 HP2 HR1 m1
  have HB3 : Hid (Below w.heap.size w (w2.alloc (.cells #[.slice (some ⟨w.heap.size + 1, 0, none⟩) nr nr, .slice (some ⟨w1.heap.size, 0, none⟩) nw nw, .int .i64 r1, .int .i64 r2, .bool u] 75))) := HB2.out.alloc HB2.out.size _
  have I : Hid (StepIn (w2.alloc (.cells #[.slice (some ⟨w.heap.size + 1, 0, none⟩) nr nr, .slice (some ⟨w1.heap.size, 0, none⟩) nw nw, .int .i64 r1, .int .i64 r2, .bool u] 75)) w.heap.size w2.heap.size (w.heap.size + 1) w1.heap.size ps h a n c nr nw A L C Z RK RV WK WV) :=
    ⟨cp.below HB3.out, (((Below.refl _ _).alloc (Nat.le_refl _) _).cell (lt_of_cell m2)).trans m2, by simp, by simp, HR2.out.alloc _, HR3.out.alloc _, hn, hL, h1, h2, ps1, ps2, rk, rk2, wk, wk2⟩
  clear m2 HR2 HR3 hL rk rk2 wk wk2 i1 i2 i3 i4 cp
  go_wp2_with fail
  refine (step_any I.out).mono ?_
  rintro e w3 ⟨a', c', h', rfl, ho, hb3⟩
  have HO : Hid (∀ wx, Below w3.heap.size w3 wx → Out w wx a n c nr nw A L C Z ps h RK RV WK WV a' c' h' ∧ Below w.heap.size w wx) := fun wx hx => ⟨ho.frame HB3.out hx, (HB3.out.trans (hb3.mono HB3.out.size)).trans (hx.mono (Nat.le_trans HB3.out.size hb3.size))⟩
  clear I ho hb3
  go_wp2_with fail
  go_quiet (fail)
  go_wp2
  go_ret3
  obtain ⟨q1, q2⟩ := HO.out _ (below_drewN ((Below.refl w3.heap.size w3).alloc (Nat.le_refl _) (.cells #[.slice a' n c', .int .u64 h'] 77)))
  exact ⟨a', c', h', rfl, q1, q2⟩

end Go.Proofs.Qxb6602268a.M
