/- The walk of (*model).step. -/
import Derived.Test.Qxb6602268aSetAny
namespace Go.Proofs.Qxb6602268a.M
open Go.ChangeShapes Go.WideShapes Go.ChangeAt Go.RowKit
set_option linter.unusedVariables false

/-- What holds of the op and the state when step begins. -/
structure StepIn (w : World) (mb ob rg wg : Nat) (ps h : Int) (a : Option Addr) (n c nr nw : Nat) (A : Nat → Option Addr) (L C : Nat → Nat) (Z : Nat → Nat → Int) (RK RV WK WV : Nat → Int) : Prop where
  cp : Cp w a n A L C Z
  m : w.cell? ⟨mb, 3, none⟩ = some (.int .i32 ps)
  o0 : w.cell? ⟨ob, 0, none⟩ = some (.slice (some ⟨rg, 0, none⟩) nr nr)
  o1 : w.cell? ⟨ob, 1, none⟩ = some (.slice (some ⟨wg, 0, none⟩) nw nw)
  r : w.rowIs rg 91 (nr * 2) (pairF RK RV)
  wr : w.rowIs wg 91 (nw * 2) (pairF WK WV)
  hn : n ≤ 131072
  hL : ∀ r, r < n → L r ≤ 131072
  h1 : nr ≤ 131072
  h2 : nw ≤ 131072
  ps1 : 1 ≤ ps
  ps2 : ps ≤ 2147483647
  rk : ∀ i, i < nr → kin n L ps (RK i) = true
  rk2 : ∀ i, i < nr → RK i ≤ 2147483647
  wk : ∀ i, i < nw → kin n L ps (WK i) = true
  wk2 : ∀ i, i < nw → WK i ≤ 2147483647

theorem holds_at {w : World} {mb ob rg wg : Nat} {ps h : Int} {a : Option Addr} {n c nr nw : Nat} {A : Nat → Option Addr} {L C : Nat → Nat} {Z : Nat → Nat → Int} {RK RV WK WV : Nat → Int}
    (I : StepIn w mb ob rg wg ps h a n c nr nw A L C Z RK RV WK WV) :
    Calls Try.prog 45 #[.pointer (some ⟨mb, 0, none⟩), .agg #[.slice a n c, .int .u64 h], .pointer (some ⟨ob, 0, none⟩)] ((w.alloc (.cells #[.slice a n c, .int .u64 h] 77)).alloc (.cells #[.slice none 0 0, .int .u64 0] 77))
      fun e w' => e = .returned (.bool (rh Z ps RK RV nr)) ∧ w'.cell? ⟨w.heap.size, 0, none⟩ = some (.slice a n c) ∧ w'.cell? ⟨w.heap.size, 1, none⟩ = some (.int .u64 h) ∧
        w'.cell? ⟨w.heap.size + 1, 0, none⟩ = some (.slice none 0 0) ∧ w'.cell? ⟨w.heap.size + 1, 1, none⟩ = some (.int .u64 0) ∧ w'.frozen? ⟨w.heap.size + 1, 0, none⟩ = false ∧ w'.frozen? ⟨w.heap.size + 1, 1, none⟩ = false ∧
        Hid (Below w.heap.size w w') ∧ w.heap.size + 1 < w'.heap.size := by
  have HB : Below w.heap.size w ((w.alloc (.cells #[.slice a n c, .int .u64 h] 77)).alloc (.cells #[.slice none 0 0, .int .u64 0] 77)) := ((Below.refl _ _).alloc (Nat.le_refl _) _).alloc (by simp) _
  refine (holds_any mb ob rg ps h a n c nr nr A L C Z RK RV _ (I.cp.pages.below HB) ((HB.cell (lt_of_cell I.m)).trans I.m) ((HB.cell (lt_of_cell I.o0)).trans I.o0) (rowIs_below I.r HB I.r.lt) I.hn I.hL I.h1 I.ps1 I.ps2 I.rk I.rk2).mono ?_
  rintro e w' ⟨he, hb⟩
  have hs := hb.size
  simp at hs
  exact ⟨he, (hb.cell (by simp; omega)).trans (by simp), (hb.cell (by simp; omega)).trans (by simp), (hb.cell (by simp)).trans (by simp), (hb.cell (by simp)).trans (by simp), (hb.frozen (by simp)).trans (by simp), (hb.frozen (by simp)).trans (by simp), HB.trans (hb.mono (by simp; omega)), by omega⟩

set_option maxRecDepth 100000 in
set_option maxHeartbeats 2000000 in
theorem step_no (w : World) (mb ob rg wg : Nat) (ps h : Int) (a : Option Addr) (n c nr nw : Nat) (A : Nat → Option Addr) (L C : Nat → Nat) (Z : Nat → Nat → Int) (RK RV WK WV : Nat → Int)
    (I : StepIn w mb ob rg wg ps h a n c nr nw A L C Z RK RV WK WV) (hh : rh Z ps RK RV nr = false) :
    Calls Try.prog 37 #[.pointer (some ⟨mb, 0, none⟩), .agg #[.slice a n c, .int .u64 h], .pointer (some ⟨ob, 0, none⟩)] w
      fun e w' => e = .returned (.tuple #[.bool false, .agg #[.slice a n c, .int .u64 h]]) ∧ Below w.heap.size w w' := by
  have HH := holds_at I
  rw [hh] at HH
  clear I
  go_enter Try.func37, Try.ntmps37
  go_wp2_with (go_at_call 45; refine HH.mono ?_; rintro e w1 ⟨rfl, c1, c2, c3, c4, c5, c6, hb, hz⟩)
  clear HH
  go_region
  go_wp2
  refine bodyPost_ret (v := .tuple #[.bool false, .agg #[.slice a n c, .int .u64 h]]) (by simp [results, Try.results37, go_sem, c3, c4]) rfl ⟨rfl, ?_⟩
  exact ((hb.out.setCell (by simp) _).setCell (by simp) _).drew

set_option maxRecDepth 100000 in
set_option maxHeartbeats 2000000 in
theorem step_idle (w : World) (mb ob rg wg : Nat) (ps h : Int) (a : Option Addr) (n c nr nw : Nat) (A : Nat → Option Addr) (L C : Nat → Nat) (Z : Nat → Nat → Int) (RK RV WK WV : Nat → Int)
    (I : StepIn w mb ob rg wg ps h a n c nr nw A L C Z RK RV WK WV) (hh : rh Z ps RK RV nr = true) (hw : ((nw : Int) == 0) = true) :
    Calls Try.prog 37 #[.pointer (some ⟨mb, 0, none⟩), .agg #[.slice a n c, .int .u64 h], .pointer (some ⟨ob, 0, none⟩)] w
      fun e w' => e = .returned (.tuple #[.bool true, .agg #[.slice a n c, .int .u64 h]]) ∧ Below w.heap.size w w' := by
  have HH := holds_at I
  rw [hh] at HH
  have o1 := I.o1
  have lo := lt_of_cell o1
  clear I
  go_enter Try.func37, Try.ntmps37
  go_wp2_with (go_at_call 45; refine HH.mono ?_; rintro e w1 ⟨rfl, c1, c2, c3, c4, c5, c6, hb, hz⟩; have c7 := (hb.out.cell lo).trans o1)
  clear HH
  go_region
  go_wp2
  refine bodyPost_ret (v := .tuple #[.bool true, .agg #[.slice a n c, .int .u64 h]]) (by simp [results, Try.results37, go_sem, c3, c4]) rfl ⟨rfl, ?_⟩
  exact ((hb.out.setCell (by simp) _).setCell (by simp) _).drew

theorem Nx.alloc {w0 wr : World} {B X N n nc : Nat} {A : Nat → Option Addr} {L C : Nat → Nat} {Z : Nat → Nat → Int} {ps : Int} {WK WV : Nat → Int} {h : Int} {j : Nat} {Gb Gc : Nat → Nat} {F : Nat → Value}
    (H : Nx w0 wr B X N n nc A L C Z ps WK WV h j Gb Gc F) (hB : B ≤ wr.heap.size) (o : Obj) : Nx w0 (wr.alloc o) B X N n nc A L C Z ps WK WV h j Gb Gc F :=
  ⟨H.bX, H.bN, H.x.alloc o, H.nn.alloc o, H.f, fun p hp hh => by
    obtain ⟨g1, g2, G, g3, g4⟩ := H.g p hp hh
    exact ⟨g1, g2, G, g3.alloc o, g4⟩, H.inj, H.bel.alloc hB o⟩

/-- What step leaves when it has written. -/
structure Fin (w0 w' : World) (N n nc : Nat) (A : Nat → Option Addr) (L C : Nat → Nat) (Z : Nat → Nat → Int) (ps : Int) (WK WV : Nat → Int) (nw : Nat) (Gb Gc : Nat → Nat) (F : Nat → Value) : Prop where
  bN : w0.heap.size ≤ N
  le : n ≤ nc
  nn : w'.rowIs N 24 nc F
  f : ∀ p, p < n → F p = if hit ps WK nw p then .slice (some ⟨Gb p, 0, none⟩) (L p) (Gc p) else .slice (A p) (L p) (C p)
  g : ∀ p, p < n → hit ps WK nw p = true → w0.heap.size ≤ Gb p ∧ L p ≤ Gc p ∧ ∃ G, w'.rowIs (Gb p) 21 (Gc p) G ∧ ∀ i, i < L p → G i = .int .i32 (Zs Z ps WK WV nw p i)
  bel : Below w0.heap.size w0 w'

set_option maxRecDepth 100000 in
set_option maxHeartbeats 2000000 in
theorem step_go (w : World) (mb ob rg wg cb : Nat) (ps h : Int) (n c nr nw : Nat) (A : Nat → Option Addr) (L C : Nat → Nat) (Z : Nat → Nat → Int) (RK RV WK WV : Nat → Int)
    (I : StepIn w mb ob rg wg ps h (some ⟨cb, 0, none⟩) n c nr nw A L C Z RK RV WK WV) (hh : rh Z ps RK RV nr = true) (hw : 0 < nw) (hn0 : 0 < n) :
    Calls Try.prog 37 #[.pointer (some ⟨mb, 0, none⟩), .agg #[.slice (some ⟨cb, 0, none⟩) n c, .int .u64 h], .pointer (some ⟨ob, 0, none⟩)] w
      fun e w' => ∃ (N nc : Nat) (Gb Gc : Nat → Nat) (F : Nat → Value), e = .returned (.tuple #[.bool true, .agg #[.slice (some ⟨N, 0, none⟩) n nc, .int .u64 (Hs Z ps WK WV h nw)]]) ∧ Fin w w' N n nc A L C Z ps WK WV nw Gb Gc F := by
  have HH := holds_at I
  rw [hh] at HH
  have o1 := I.o1
  have lo := lt_of_cell o1
  have hw0 : ((nw : Int) == 0) = false := by rw [beq_eq_false_iff_ne]; omega
  go_enter Try.func37, Try.ntmps37
  go_wp2_with (go_at_call 45; refine HH.mono ?_; rintro e w1 ⟨rfl, c1, c2, c3, c4, c5, c6, hb, hz⟩; have c7 := (hb.out.cell lo).trans o1)
  clear HH
  have cp1 := I.cp.below hb.out
  have HCL : Hid (∀ Wx, Below w1.heap.size w1 Wx → Calls Try.prog 46 #[.slice (some ⟨cb, 0, none⟩) n c] Wx (fun e w' => ∃ (N nc : Nat) (F : Nat → Value), e = .returned (.slice (some ⟨N, 0, none⟩) n nc) ∧
      w'.cell? ⟨w.heap.size, 0, none⟩ = some (.slice (some ⟨cb, 0, none⟩) n c) ∧ w'.cell? ⟨w.heap.size, 1, none⟩ = some (.int .u64 h) ∧
      (∀ o, w1.heap.size < Wx.heap.size → w'.cell? ⟨w1.heap.size, o, none⟩ = Wx.cell? ⟨w1.heap.size, o, none⟩) ∧ (∀ o, w1.heap.size < Wx.heap.size → w'.frozen? ⟨w1.heap.size, o, none⟩ = Wx.frozen? ⟨w1.heap.size, o, none⟩) ∧
      Hid (Wx.heap.size ≤ N ∧ w'.rowIs N 24 nc F ∧ n ≤ nc ∧ (∀ i, i < n → F i = .slice (A i) (L i) (C i)) ∧ Below Wx.heap.size Wx w'))) := by
    intro Wx hx
    obtain ⟨cb', e, htop⟩ := (cp1.below hx).top hn0
    cases e
    refine (clone46_any cb 0 n c (fun r => .slice (A r) (L r) (C r)) Wx (fun i hi => ?_) hn0 I.hn (fun i _ => rfl)).mono ?_
    · rw [Nat.zero_add]; exact htop.cell hi
    · rintro e w' ⟨g, cap, f, he, hg, hr, hcap, hf, hb'⟩
      have hx' := hx.trans (hb'.mono hx.size)
      exact ⟨g, cap, f, he, (hx'.cell (by show w.heap.size < _; omega)).trans c1, (hx'.cell (by show w.heap.size < _; omega)).trans c2, fun o ho => hb'.cell ho, fun o ho => hb'.frozen ho, hg, hr, hcap, hf, hb'⟩
  have I' : Hid (StepIn w mb ob rg wg ps h (some ⟨cb, 0, none⟩) n c nr nw A L C Z RK RV WK WV) := I
  clear I
  have nws : w1.heap.size ≠ w.heap.size := by omega
  have nsw : w.heap.size ≠ w1.heap.size := by omega
  go_cut [8] (fun s wc => ∃ (X N nc : Nat) (F : Nat → Value), s = .pointer (some ⟨X, 0, none⟩) ∧ n ≤ nc ∧ Nx w1 wc w1.heap.size X N n nc A L C Z ps WK WV h 0 (fun _ => 0) (fun _ => 0) F)
  case first =>
    go_region_held3 (fun w' => w'.cell? ⟨w.heap.size, 0, none⟩ = some (.slice (some ⟨cb, 0, none⟩) n c) ∧ w'.cell? ⟨w.heap.size, 1, none⟩ = some (.int .u64 h)) (go_keep) (first | (go_at_call 46; refine (HCL.out _ (by first | exact (Below.refl _ _).drew | exact ((Below.refl _ _).alloc (Nat.le_refl _) _).drew)).mono ?_; rintro e w2 ⟨N, nc, F, rfl, q1, q2, q3, q4, HQ⟩))
    · go_wp2_with fail
      go_meet
      obtain ⟨r1, r2, r3, r4, r5⟩ := HQ.out
      have r6 : Below w1.heap.size w1 w2 := ⟨r5.os, r5.tape, r5.output, r5.size, r5.block⟩
      exact ⟨w2.heap.size, N, nc, F, rfl, r3, Nx.start_behind r6 r1 r2 r4⟩
    · go_wp2_with fail
      go_meet
      obtain ⟨r1, r2, r3, r4, r5⟩ := HQ.out
      have r6 : Below (w1.heap.size + 1) (w1.alloc (.cells #[.slice none 0 0, .int .u64 0] 77)) w2 := by
        have e1 : ((w1.alloc (.cells #[.slice none 0 0, .int .u64 0] 77)).drew).heap.size = w1.heap.size + 1 := by simp
        rw [e1] at r5
        exact ⟨r5.os, r5.tape, r5.output, r5.size, r5.block⟩
      have r7 := World.rowIs_alloc w1 #[.slice none 0 0, .int .u64 0] 77 (fun i => if i = 0 then .slice none 0 0 else .int .u64 0) (fun i hi => by
        have : i = 0 ∨ i = 1 := by simp at hi; omega
        rcases this with rfl | rfl <;> simp)
      have r8 : Below w1.heap.size w1 w2 := ((Below.refl _ _).alloc (Nat.le_refl _) _).trans (r6.mono (by omega))
      have r9 : w1.heap.size ≤ N := by simp at r1; omega
      exact ⟨w1.heap.size, N, nc, F, rfl, r3, Nx.start_ahead r8 r9 (Nat.le_refl _) (rowIs_below r7 r6 (by omega)) r2 r4⟩
  case rest =>
    obtain ⟨X, N, nc, F, rfl, hnc, hx⟩ := hcut
    clear HCL
    have c8 : wc.cell? ⟨ob, 1, none⟩ = _ := (hx.bel.cell (lt_of_cell c7)).trans c7
    go_wp2_with fail
    clear c8
    have hsz := hx.bel.size
    go_loopw [35] (fun i wr => ∃ (j : Nat) (Gb Gc : Nat → Nat) (F : Nat → Value), j ≤ nw ∧ i = .int .i64 j ∧ Nx w1 wr w1.heap.size X N n nc A L C Z ps WK WV h j Gb Gc F) (fun i _ => nw - (intOf i).toNat)
    case atStart => exact ⟨0, _, _, F, Nat.zero_le _, rfl, hx⟩
    case round =>
      obtain ⟨j, Gb, Gc, F', hj, rfl, H⟩ := hrel
      clear hx hsz
      have hs := H.bel.size
      by_cases hlt : j < nw
      · have hI := I'.out
        have k1 : wr.cell? ⟨w.heap.size, 0, none⟩ = _ := (H.bel.cell (lt_of_cell c1)).trans c1
        have k2 : wr.cell? ⟨w.heap.size, 1, none⟩ = _ := (H.bel.cell (lt_of_cell c2)).trans c2
        have hbb : Below w.heap.size w wr := hb.out.trans (H.bel.mono (by omega))
        have p1 : wr.cell? ⟨wg, j * 2, none⟩ = some (.int .i32 (WK j)) := (hbb.cell hI.wr.lt).trans ((hI.wr.cell (by omega)).trans (by rw [pairF_key]))
        have p2 : wr.cell? ⟨wg, j * 2 + 1, none⟩ = some (.int .i32 (WV j)) := (hbb.cell hI.wr.lt).trans ((hI.wr.cell (by omega)).trans (by rw [pairF_val]))
        have s1 : w.heap.size < wr.heap.size := by omega
        have HS : Hid (Calls Try.prog 47 #[.pointer (some ⟨mb, 0, none⟩), .pointer (some ⟨X, 0, none⟩), .agg #[.slice (some ⟨cb, 0, none⟩) n c, .int .u64 h], .int .i32 (WK j), .int .i32 (WV j)] (wr.alloc (.cells #[.int .i32 (WK j), .int .i32 (WV j)] 91))
            (fun e w' => e = .returned (.tuple #[]) ∧ ∃ Gb' Gc' F', Nx w1 w' w1.heap.size X N n nc A L C Z ps WK WV h (j + 1) Gb' Gc' F')) :=
          set_inv (H.alloc hs _) cp1 ((hb.out.cell (lt_of_cell hI.m)).trans hI.m) hI.ps1 hI.ps2 hI.hn hnc hI.hL (hI.wk j hlt) (hI.wk2 j hlt)
        have h2 := hI.h2
        clear hI hbb
        go_wp2_with (go_at_call 47; refine HS.out.mono ?_; rintro e w' ⟨rfl, Gb2, Gc2, F2, H2⟩)
        go_roundw
        case rel => exact ⟨j + 1, Gb2, Gc2, F2, by omega, by go_num, H2⟩
        case measure => simp [intOf]; omega
      · obtain rfl : j = nw := by omega
        have x0 := H.x.cell (i := 0) (by omega)
        have x1 := H.x.cell (i := 1) (by omega)
        simp only [if_true, Nat.one_ne_zero, if_false] at x0 x1
        have k3 : wr.cell? ⟨w.heap.size + 1, 0, none⟩ = _ := (H.bel.cell (lt_of_cell c3)).trans c3
        have k4 : wr.cell? ⟨w.heap.size + 1, 1, none⟩ = _ := (H.bel.cell (lt_of_cell c4)).trans c4
        have k5 : wr.frozen? ⟨w.heap.size + 1, 0, none⟩ = _ := (H.bel.frozen (lt_of_cell c3)).trans c5
        have k6 : wr.frozen? ⟨w.heap.size + 1, 1, none⟩ = _ := (H.bel.frozen (lt_of_cell c4)).trans c6
        have HF : Hid (∃ (Gb Gc : Nat → Nat) (F : Nat → Value), Fin w ((wr.setCell ⟨w.heap.size + 1, 0, none⟩ (.slice (some ⟨N, 0, none⟩) n nc)).setCell ⟨w.heap.size + 1, 1, none⟩ (.int .u64 (Hs Z ps WK WV h j))) N n nc A L C Z ps WK WV j Gb Gc F) := by
          have hsw := hb.out.size
          have e1 := H.bN
          have nN : N ≠ w.heap.size + 1 := by omega
          refine ⟨Gb, Gc, F', by omega, hnc, (H.nn.setOther nN _).setOther nN _, H.f, fun p hp hh => ?_, ?_⟩
          · obtain ⟨g1, g2, G, g3, g4⟩ := H.g p hp hh
            have nG : Gb p ≠ w.heap.size + 1 := by omega
            exact ⟨by omega, g2, G, (g3.setOther nG _).setOther nG _, g4⟩
          · exact ((hb.out.trans (H.bel.mono hsw)).setCell (by simp) _).setCell (by simp) _
        clear c1 c2 c3 c4 c5 c6 c7 H
        go_wp2_with fail
        go_region
        go_wp2
        obtain ⟨Gb, Gc, F, hF⟩ := HF.out
        refine bodyPost_ret (v := .tuple #[.bool true, .agg #[.slice (some ⟨N, 0, none⟩) n nc, .int .u64 (Hs Z ps WK WV h j)]]) (by simp [results, Try.results37, go_sem, k3, k4]) rfl ⟨N, nc, Gb, Gc, F, rfl, ?_⟩
        exact ⟨hF.bN, hF.le, hF.nn, hF.f, hF.g, hF.bel.drew⟩

end Go.Proofs.Qxb6602268a.M
