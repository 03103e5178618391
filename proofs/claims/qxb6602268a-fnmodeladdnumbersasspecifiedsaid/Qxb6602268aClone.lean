/- The walk of zzClonePages. -/
import Derived.Test.Qxb6602268aMem
namespace Go.Proofs.Qxb6602268a.M
open Go.ChangeShapes Go.WideShapes Go.ChangeAt Go.RowKit
set_option linter.unusedVariables false

theorem info21 : (Try.prog.info? 21).map (fun i => (i.zero, i.size, i.bytes)) = some (some (.int .i32 0), 1, 4) := by kernel_rfl
theorem info24 : (Try.prog.info? 24).map (fun i => (i.zero, i.size, i.bytes)) = some (some (.slice none 0 0), 1, 24) := by kernel_rfl

theorem rowIs_below {w w' : World} {b B : Nat} {t : TypeId} {n : Nat} {f : Nat → Value} (h : w.rowIs b t n f) (hb : Below B w w') (hB : b < B) : w'.rowIs b t n f :=
  h.of_block (hb.block b hB)

/-- A row that the clone has made: its block lies behind cb. -/
def RowOK (w : World) (cb : Nat) (a : Option Addr) (n : Nat) (Z : Nat → Int) : Prop :=
  0 < n → ∃ g, a = some ⟨g, 0, none⟩ ∧ cb < g ∧ w.rowIs g 21 n (fun i => .int .i32 (Z i))

theorem RowOK.below {w w' : World} {cb : Nat} {a : Option Addr} {n : Nat} {Z : Nat → Int} (h : RowOK w cb a n Z) (hb : Below w.heap.size w w') : RowOK w' cb a n Z := by
  intro h0
  obtain ⟨g, ha, hg, hr⟩ := h h0
  exact ⟨g, ha, hg, rowIs_below hr hb hr.lt⟩

theorem RowOK.set {w : World} {cb : Nat} {a : Option Addr} {n : Nat} {Z : Nat → Int} (h : RowOK w cb a n Z) (i : Nat) (v : Value) : RowOK (w.setCell ⟨cb, i, none⟩ v) cb a n Z := by
  intro h0
  obtain ⟨g, ha, hg, hr⟩ := h h0
  exact ⟨g, ha, hg, hr.setOther (by show g ≠ cb; omega) v⟩

theorem RowOK.ints {w : World} {cb : Nat} {a : Option Addr} {n : Nat} {Z : Nat → Int} (h : RowOK w cb a n Z) : Ints w a n Z := by
  intro h0
  obtain ⟨g, ha, hg, hr⟩ := h h0
  exact ⟨g, 0, ha, fun i hi => by rw [Nat.zero_add]; exact hr.cell hi⟩

/-- The clone's outer loop behind k rounds. -/
structure Made (w wr : World) (cb n : Nat) (L : Nat → Nat) (Z : Nat → Nat → Int) (k : Nat) (A' : Nat → Option Addr) (C' : Nat → Nat) : Prop where
  top : wr.rowIs cb 24 n (fun r => if r < k then .slice (A' r) (L r) (C' r) else .slice none 0 0)
  row : ∀ r, r < k → RowOK wr cb (A' r) (L r) (Z r)
  bel : Below w.heap.size w wr

theorem Made.skip {w wr : World} {cb n : Nat} {L : Nat → Nat} {Z : Nat → Nat → Int} {k : Nat} {A' : Nat → Option Addr} {C' : Nat → Nat} (h : Made w wr cb n L Z k A' C') (hL : L k = 0) :
    ∃ A'' C'', Made w wr cb n L Z (k + 1) A'' C'' := by
  refine ⟨fun r => if r = k then none else A' r, fun r => if r = k then 0 else C' r, h.top.congr fun r hr => ?_, fun r hr => ?_, h.bel⟩
  · by_cases e : r = k
    · subst e; simp [hL]
    · by_cases e2 : r < k
      · rw [if_pos e2, if_pos (by omega)]; simp [e]
      · rw [if_neg e2, if_neg (by omega)]
  · by_cases e : r = k
    · subst e; intro h0; omega
    · simp only [if_neg e]; exact h.row r (by omega)

theorem Made.fill {w wr w2 : World} {cb n : Nat} {L : Nat → Nat} {Z : Nat → Nat → Int} {k : Nat} {A' : Nat → Option Addr} {C' : Nat → Nat} (h : Made w wr cb n L Z k A' C') (hcb : w.heap.size ≤ cb) (hk : k < n)
    (hb : Below wr.heap.size wr w2) (hr : w2.rowIs wr.heap.size 21 (L k) (fun i => .int .i32 (Z k i))) :
    ∃ A'' C'', Made w (w2.setCell ⟨cb, k, none⟩ (.slice (some ⟨wr.heap.size, 0, none⟩) (L k) (L k))) cb n L Z (k + 1) A'' C'' := by
  have hlt := h.top.lt
  refine ⟨fun r => if r = k then some ⟨wr.heap.size, 0, none⟩ else A' r, fun r => if r = k then L k else C' r, ((rowIs_below h.top hb hlt).set k _).congr fun r _ => ?_, fun r hrk => ?_, ?_⟩
  · by_cases e : r = k
    · subst e; simp
    · rw [if_neg e]
      by_cases e2 : r < k
      · rw [if_pos e2, if_pos (by omega)]; simp [e]
      · rw [if_neg e2, if_neg (by omega)]
  · by_cases e : r = k
    · subst e
      intro _
      exact ⟨wr.heap.size, by simp, hlt, hr.setOther (by show wr.heap.size ≠ cb; omega) _⟩
    · simp only [if_neg e]; exact ((h.row r (by omega)).below hb).set _ _
  · have := h.bel.size
    exact (h.bel.trans (hb.mono this)).setCell (by exact hcb) _

theorem Made.start (w : World) (n : Nat) (L : Nat → Nat) (Z : Nat → Nat → Int) :
    Made w (w.alloc (.cells (madeCells #[.slice none 0 0] n) 24)) w.heap.size n L Z 0 (fun _ => none) (fun _ => 0) :=
  ⟨(World.rowIs_made w _ n 24).congr fun r _ => by simp, fun r hr => by omega, (Below.refl _ _).alloc (Nat.le_refl _) _⟩

/-- Pages that the call itself has made: the list and each page a block of its own. -/
structure Cp (w : World) (a : Option Addr) (n : Nat) (A : Nat → Option Addr) (L C : Nat → Nat) (Z : Nat → Nat → Int) : Prop where
  top : 0 < n → ∃ cb, a = some ⟨cb, 0, none⟩ ∧ w.rowIs cb 24 n (fun r => .slice (A r) (L r) (C r))
  row : ∀ r, r < n → 0 < L r → ∃ g, A r = some ⟨g, 0, none⟩ ∧ w.rowIs g 21 (L r) (fun i => .int .i32 (Z r i))

theorem Cp.pages {w : World} {a : Option Addr} {n : Nat} {A : Nat → Option Addr} {L C : Nat → Nat} {Z : Nat → Nat → Int} (h : Cp w a n A L C Z) : Pages w a n A L C Z := by
  refine ⟨fun h0 => ?_, fun r hr h0 => ?_⟩
  · obtain ⟨cb, ha, ht⟩ := h.top h0
    exact ⟨cb, 0, ha, fun r hr => by rw [Nat.zero_add]; exact ht.cell hr⟩
  · obtain ⟨g, ha, ht⟩ := h.row r hr h0
    exact ⟨g, 0, ha, fun r hr => by rw [Nat.zero_add]; exact ht.cell hr⟩

theorem Cp.below {w w' : World} {a : Option Addr} {n : Nat} {A : Nat → Option Addr} {L C : Nat → Nat} {Z : Nat → Nat → Int} (h : Cp w a n A L C Z) (hb : Below w.heap.size w w') : Cp w' a n A L C Z := by
  refine ⟨fun h0 => ?_, fun r hr h0 => ?_⟩
  · obtain ⟨cb, ha, ht⟩ := h.top h0
    exact ⟨cb, ha, rowIs_below ht hb ht.lt⟩
  · obtain ⟨g, ha, ht⟩ := h.row r hr h0
    exact ⟨g, ha, rowIs_below ht hb ht.lt⟩

theorem Made.done {w wr : World} {cb n : Nat} {L : Nat → Nat} {Z : Nat → Nat → Int} {A' : Nat → Option Addr} {C' : Nat → Nat} (h : Made w wr cb n L Z n A' C') : Cp wr (some ⟨cb, 0, none⟩) n A' L C' Z :=
  ⟨fun _ => ⟨cb, rfl, h.top.congr fun r hr => by rw [if_pos hr]⟩, fun r hr h0 => by
    obtain ⟨g, ha, _, hg⟩ := h.row r hr h0
    exact ⟨g, ha, hg⟩⟩

/-- the inner loop's row behind one more store -/
theorem fill_step {wx : World} {g n j : Nat} {Z : Nat → Int} (h : wx.rowIs g 21 n (fun i => if i < j then .int .i32 (Z i) else .int .i32 0)) :
    (wx.setCell ⟨g, j, none⟩ (.int .i32 (Z j))).rowIs g 21 n (fun i => if i < j + 1 then .int .i32 (Z i) else .int .i32 0) := by
  refine (h.set j _).congr fun i hi => ?_
  by_cases e : i = j
  · subst e; simp
  · rw [if_neg e]
    by_cases e2 : i < j
    · rw [if_pos e2, if_pos (by omega)]
    · rw [if_neg e2, if_neg (by omega)]

set_option maxHeartbeats 2000000 in
theorem clone_any (a : Option Addr) (n c : Nat) (A : Nat → Option Addr) (L C : Nat → Nat) (Z : Nat → Nat → Int) (w : World) (hp : Pages w a n A L C Z) (hn : n ≤ 131072) (hL : ∀ r, r < n → L r ≤ 131072) :
    Calls Try.prog 10 #[.slice a n c] w fun e w' => ∃ a' c' A' C', e = .returned (.slice a' n c') ∧ Cp w' a' n A' L C' Z ∧ Below w.heap.size w w' := by
  have hq1 := fun w a n c => Lib.run_eql_slice_nil (P := Try.prog) w 22 24 a n c 0 0 Try.underlying22
  have hq2 := fun w a n c => run_neq_slice_nil_any (P := Try.prog) w 24 21 a n c 0 0 Try.underlying24
  cases a with
  | none =>
    obtain rfl : n = 0 := by
      by_cases h0 : 0 < n
      · obtain ⟨b, o, h, _⟩ := hp.top h0; cases h
      · omega
    go_enter Try.func10, Try.ntmps10
    go_wp2
    go_ret
    exact ⟨none, 0, A, C, rfl, ⟨fun h => by omega, fun r hr => by omega⟩, Below.refl _ _⟩
  | some x =>
    have hmk := run_make_row' (P := Try.prog) 22 24 (.slice none 0 0) 24 Try.underlying22 info24 rfl .i64 .i64 n (by omega) (by omega)
    go_enter Try.func10, Try.ntmps10
    go_wp2
    clear hmk hq1
    go_loopw [4] (fun i wr => ∃ (k : Nat) (A' : Nat → Option Addr) (C' : Nat → Nat), k ≤ n ∧ i = .int .i64 k ∧ Made w wr w.heap.size n L Z k A' C') (fun i _ => n - (intOf i).toNat)
    case atStart => exact ⟨0, _, _, Nat.zero_le _, rfl, Made.start w n L Z⟩
    case round =>
      obtain ⟨k, A', C', hk, rfl, hm⟩ := hrel
      by_cases hlt : k < n
      · obtain ⟨b, o, hx, hc⟩ := hp.top (by omega)
        cases hx
        have hbb : b < w.heap.size := lt_of_cell (hc k hlt)
        have hc' : wr.cell? ⟨b, o + k, none⟩ = some (.slice (A k) (L k) (C k)) := (hm.bel.cell hbb).trans (hc k hlt)
        have hLk := hL k hlt
        clear hc hL
        cases hA : A k with
        | none =>
          rw [hA] at hc'
          have hL0 : L k = 0 := by
            by_cases h0 : 0 < L k
            · obtain ⟨b, o, h, _⟩ := hp.row k hlt h0; rw [hA] at h; cases h
            · omega
          have HR : Hid (∃ A'' C'', Made w wr w.heap.size n L Z (k + 1) A'' C'') := hm.skip hL0
          clear hL0 hA
          go_wp2
          obtain ⟨A2, C2, h2⟩ := HR.out
          go_roundw
          case rel => exact ⟨k + 1, A2, C2, by omega, by go_num, h2⟩
          case measure => simp [intOf]; omega
        | some y =>
          rw [hA] at hc'
          have hrow := hp.row k hlt
          rw [hA] at hrow
          clear hA
          obtain ⟨wo, rfl⟩ : ∃ wo : World, wo = wr := ⟨_, rfl⟩
          have hmk := run_make_row' (P := Try.prog) 24 21 (.int .i32 0) 4 Try.underlying24 info21 rfl .i64 .i64 (L k) (by omega) (by omega)
          go_wp2
          clear hmk
          go_loopw [6] (fun i wr => ∃ j : Nat, j ≤ L k ∧ i = .int .i64 j ∧ wr.rowIs wo.heap.size 21 (L k) (fun i => if i < j then .int .i32 (Z k i) else .int .i32 0) ∧ Below wo.heap.size wo wr) (fun i _ => L k - (intOf i).toNat)
          case atStart => exact ⟨0, Nat.zero_le _, rfl, (World.rowIs_made wo _ (L k) 21).congr fun r _ => by simp, (Below.refl _ _).alloc (Nat.le_refl _) _⟩
          case round =>
            obtain ⟨j, hj, rfl, hrw, hbl⟩ := hrel
            have hbo : b < wo.heap.size := Nat.lt_of_lt_of_le hbb hm.bel.size
            have hc2 : wr.cell? ⟨b, o + k, none⟩ = some (.slice (some y) (L k) (C k)) := (hbl.cell hbo).trans hc'
            clear hc'
            by_cases hjl : j < L k
            · obtain ⟨yb, yo, hy, hyc⟩ := hrow (by omega)
              cases hy
              have hyb : yb < w.heap.size := lt_of_cell (hyc j hjl)
              have hyo : yb < wo.heap.size := Nat.lt_of_lt_of_le hyb hm.bel.size
              have hyc' : wr.cell? ⟨yb, yo + j, none⟩ = some (.int .i32 (Z k j)) := ((hbl.cell hyo).trans (hm.bel.cell hyb)).trans (hyc j hjl)
              have hgc := hrw.cell hjl
              have hgf := hrw.frozen j
              have HS : Hid ((wr.setCell ⟨wo.heap.size, j, none⟩ (.int .i32 (Z k j))).rowIs wo.heap.size 21 (L k) (fun i => if i < j + 1 then .int .i32 (Z k i) else .int .i32 0)) := fill_step hrw
              have HB : Hid (Below wo.heap.size wo (wr.setCell ⟨wo.heap.size, j, none⟩ (.int .i32 (Z k j)))) := hbl.setCell (by simp) _
              clear hyc hrow
              go_wp2
              go_roundw
              case rel => exact ⟨j + 1, by omega, by go_num, HS.out, HB.out⟩
              case measure => simp [intOf]; omega
            · have HR : Hid (∃ A'' C'', Made w (wr.setCell ⟨w.heap.size, k, none⟩ (.slice (some ⟨wo.heap.size, 0, none⟩) (L k) (L k))) w.heap.size n L Z (k + 1) A'' C'') :=
                hm.fill (Nat.le_refl _) hlt hbl (hrw.congr fun i hi => by rw [if_pos (by omega)])
              have htop := rowIs_below hm.top hbl hm.top.lt
              have htc := htop.cell hlt
              have htf := htop.frozen k
              clear htop
              go_wp2
              obtain ⟨A2, C2, h2⟩ := HR.out
              go_roundw
              case rel => exact ⟨k + 1, A2, C2, by omega, by go_num, h2⟩
              case measure => simp [intOf]; omega
      · obtain rfl : k = n := by omega
        go_wp2
        go_ret
        exact ⟨_, _, A', C', rfl, hm.done, hm.bel⟩

end Go.Proofs.Qxb6602268a.M
