/- ZZIlog2. -/
import Derived.Test.Qxb6002359aBigF
namespace Go.Proofs.Qxb6002359a.B
open Go.RowKit Go.ChangeShapes Go.WideShapes Go.ChangeAt
set_option linter.unusedVariables false
set_option linter.unusedSimpArgs false

theorem bytesNum {Z : Nat → Nat} {n k : Nat} (hn : n ≤ 8192) (hz : ∀ i, i < n → Z i ≤ 255) (h0 : bval Z n ≠ 0) (h : Cut ((n + 7) / 8) k (leW (leB Z n))) : Num k (leW (leB Z n)) ∧ valW (leW (leB Z n)) k = bval Z n := by
  have hle := h.le
  have hv : valW (leW (leB Z n)) k = bval Z n := by
    rw [← valW_bval, show (n + 7) / 8 = k + ((n + 7) / 8 - k) by omega]
    exact (valW_cut (n := 0) k _ (fun j h1 h2 => h.zero j h1 (by omega))).symm
  refine ⟨⟨?_, by omega, ?_, fun j _ => leW_lt (leB_le hz) j⟩, hv⟩
  · rcases Nat.eq_zero_or_pos k with e | e
    · subst e; simp [valW] at hv; omega
    · exact e
  · rcases h.top with e | e
    · subst e; simp [valW] at hv; omega
    · omega
theorem numOne : Num 1 (fun _ => 1) := ⟨by omega, by omega, by omega, fun _ _ => by omega⟩

def Ilog (w w' : World) (e : Ending) (X : Nat) (inv : Bool) : Prop := e = .returned (.int .i64 (if inv then lgInv X else lg X)) ∧ Below w.heap.size w w'

theorem Wds.le {w : World} {a : Option Addr} {m k : Nat} {W : Nat → Nat} (h : Wds w a m W) (hk : k ≤ m) : Wds w a k W := fun h0 => by
  obtain ⟨b, ha, hc⟩ := h (by omega)
  exact ⟨b, ha, fun i hi => hc i (by omega)⟩

set_option maxRecDepth 100000 in
theorem zzIlog2_ff (w : World) (g n c : Nat) (Z : Nat → Nat) (h1 : 1 ≤ n) (hn : n ≤ 8192) (hnc : n ≤ c) (hz : ∀ i, i < n → w.cell? ⟨g, i, none⟩ = some (.int .u8 (Z i : Nat)) ∧ Z i ≤ 255) (h0 : bval Z n ≠ 0) :
    Calls Try.prog 21 #[.slice (some ⟨g, 0, none⟩) n c, .bool false, .bool false] w (fun e w' => Ilog w w' e (bval Z n) false) := by
  obtain ⟨np, ni, nb⟩ := newInt w
  have HC := hid (intSetBytes_new (w.alloc (.cells #[.bool false, .slice none 0 0] 65)) w.heap.size 0 g 0 n c false Z h1 hn hnc (fun i hi => (hz i hi).2) (fun i hi => by rw [Nat.zero_add]; exact (nb.cell (lt_of_cell (hz i hi).1)).trans (hz i hi).1) np ni)
  unfold RetInt at HC
  rw [alloc_size] at HC
  have HZ := hid (And.intro nb (And.intro np (fun i hi => (hz i hi).2)))
  have H0 := hid h0
  clear np ni nb hz h0
  go_enter Try.func21, Try.ntmps21
  go_wp2_with (go_at_call 30; refine HC.out.mono ?_; clear HC; rintro e w1 ⟨k, c', rfl, hcut, hmc, hW, hi1, hk1⟩; have HN := hid (bytesNum hn HZ.out.2.2 H0.out hcut); have hp1 := hk1.plain HZ.out.2.1; have hW1 := hW.le hcut.le; clear hmc hW hcut)
  have HP := hid (And.intro hk1 (And.intro hi1 (And.intro hW1 hp1)))
  clear hk1 hi1 hW1 hp1
  obtain ⟨wy, hwy⟩ : ∃ wy, w1 = wy := ⟨_, rfl⟩
  subst hwy
  have hsz := HP.out.2.2.2.lt
  obtain ⟨rp, rr, rb⟩ := newRat w1
  have HC := hid (ratSetInt_new (w1.alloc (.cells #[.bool false, .slice none 0 0, .bool false, .slice none 0 0] 70)) w1.heap.size w.heap.size 0 k c' (some ⟨w.heap.size + 1, 0, none⟩) (leW (leB Z n)) false HN.out.1.one (by have := HN.out.1.small; omega) (by omega) rp (HP.out.2.2.2.below rb) rr (HP.out.2.1.below rb) (HP.out.2.2.1.below rb))
  have HQ := hid (And.intro rp rb)
  clear rp rr rb
  go_wp2_with (first
    | (go_at_call 32; refine HC.out.mono ?_; clear HC; rintro e w2 ⟨rfl, gg, cc, g2, cc2, hr1, hr2, hWg, hWg2, hrat, hk2⟩
       have HC34 := hid (ilog2_int w2 w1.heap.size k cc 1 cc2 gg g2 false (leW (leB Z n)) (fun _ => 1) (HQ.out.1.kept hk2) HN.out.1 numOne hrat hWg hWg2 rfl rfl)
       have HK := hid hk2
       clear hWg hWg2 hrat hk2)
    | (go_at_call 34; refine HC34.out.mono ?_; clear HC34; rintro e w4 ⟨rfl, hb4⟩; have HB := hid hb4; clear hb4))
  go_ret
  refine ⟨by rw [HN.out.2]; rfl, ?_⟩
  exact below_then (w := w2) (HK.out.below (by omega) (below_then (w := w1) (HP.out.1.below (Nat.le_refl _) HZ.out.1 (Nat.le_refl _)) HQ.out.2) (Nat.le_refl _)) HB.out

set_option maxRecDepth 100000 in
theorem zzIlog2_ft (w : World) (g n c : Nat) (Z : Nat → Nat) (h1 : 1 ≤ n) (hn : n ≤ 8192) (hnc : n ≤ c) (hz : ∀ i, i < n → w.cell? ⟨g, i, none⟩ = some (.int .u8 (Z i : Nat)) ∧ Z i ≤ 255) (h0 : bval Z n ≠ 0) :
    Calls Try.prog 21 #[.slice (some ⟨g, 0, none⟩) n c, .bool false, .bool true] w (fun e w' => Ilog w w' e (bval Z n) true) := by
  obtain ⟨np, ni, nb⟩ := newInt w
  have HC := hid (intSetBytes_new (w.alloc (.cells #[.bool false, .slice none 0 0] 65)) w.heap.size 0 g 0 n c false Z h1 hn hnc (fun i hi => (hz i hi).2) (fun i hi => by rw [Nat.zero_add]; exact (nb.cell (lt_of_cell (hz i hi).1)).trans (hz i hi).1) np ni)
  unfold RetInt at HC
  rw [alloc_size] at HC
  have HZ := hid (And.intro nb (And.intro np (fun i hi => (hz i hi).2)))
  have H0 := hid h0
  clear np ni nb hz h0
  go_enter Try.func21, Try.ntmps21
  go_wp2_with (go_at_call 30; refine HC.out.mono ?_; clear HC; rintro e w1 ⟨k, c', rfl, hcut, hmc, hW, hi1, hk1⟩; have HN := hid (bytesNum hn HZ.out.2.2 H0.out hcut); have hp1 := hk1.plain HZ.out.2.1; have hW1 := hW.le hcut.le; clear hmc hW hcut)
  have HP := hid (And.intro hk1 (And.intro hi1 (And.intro hW1 hp1)))
  clear hk1 hi1 hW1 hp1
  obtain ⟨wy, hwy⟩ : ∃ wy, w1 = wy := ⟨_, rfl⟩
  subst hwy
  have hsz := HP.out.2.2.2.lt
  obtain ⟨rp, rr, rb⟩ := newRat w1
  have HC := hid (ratSetInt_new (w1.alloc (.cells #[.bool false, .slice none 0 0, .bool false, .slice none 0 0] 70)) w1.heap.size w.heap.size 0 k c' (some ⟨w.heap.size + 1, 0, none⟩) (leW (leB Z n)) false HN.out.1.one (by have := HN.out.1.small; omega) (by omega) rp (HP.out.2.2.2.below rb) rr (HP.out.2.1.below rb) (HP.out.2.2.1.below rb))
  have HQ := hid (And.intro rp rb)
  clear rp rr rb
  go_wp2_with (first
    | (go_at_call 32; refine HC.out.mono ?_; clear HC; rintro e w2 ⟨rfl, gg, cc, g2, cc2, hr1, hr2, hWg, hWg2, hrat, hk2⟩
       have HC33 := hid (ratInv_same w2 w1.heap.size k cc 1 cc2 (some ⟨gg, 0, none⟩) (some ⟨g2, 0, none⟩) false HN.out.1.one (by omega) (HQ.out.1.kept hk2) hrat)
       have HG := hid (And.intro hWg hWg2)
       have HK2 := hid hk2
       clear hWg hWg2 hrat hk2)
    | (go_at_call 33; refine HC33.out.mono ?_; clear HC33; rintro e w3 ⟨rfl, hrat, hk3⟩
       have HC34 := hid (ilog2_inv w3 w1.heap.size 1 cc2 k cc g2 gg false (fun _ => 1) (leW (leB Z n)) ((HQ.out.1.kept HK2.out).kept hk3) numOne HN.out.1 hrat (hk3.wds HG.out.2 (Ne.symm hr2)) (hk3.wds HG.out.1 (Ne.symm hr1)) rfl rfl)
       have HK := hid (HK2.out.trans hk3)
       clear hrat hk3)
    | (go_at_call 34; refine HC34.out.mono ?_; clear HC34; rintro e w4 ⟨rfl, hb4⟩; have HB := hid hb4; clear hb4))
  go_ret
  refine ⟨by rw [HN.out.2]; rfl, ?_⟩
  exact below_then (w := w3) (HK.out.below (by omega) (below_then (w := w1) (HP.out.1.below (Nat.le_refl _) HZ.out.1 (Nat.le_refl _)) HQ.out.2) (Nat.le_refl _)) HB.out

set_option maxRecDepth 100000 in
theorem zzIlog2_tf (w : World) (g n c : Nat) (Z : Nat → Nat) (h1 : 1 ≤ n) (hn : n ≤ 8192) (hnc : n ≤ c) (hz : ∀ i, i < n → w.cell? ⟨g, i, none⟩ = some (.int .u8 (Z i : Nat)) ∧ Z i ≤ 255) (h0 : bval Z n ≠ 0) :
    Calls Try.prog 21 #[.slice (some ⟨g, 0, none⟩) n c, .bool true, .bool false] w (fun e w' => Ilog w w' e (bval Z n) false) := by
  obtain ⟨np, ni, nb⟩ := newInt w
  have HC := hid (intSetBytes_new (w.alloc (.cells #[.bool false, .slice none 0 0] 65)) w.heap.size 0 g 0 n c false Z h1 hn hnc (fun i hi => (hz i hi).2) (fun i hi => by rw [Nat.zero_add]; exact (nb.cell (lt_of_cell (hz i hi).1)).trans (hz i hi).1) np ni)
  unfold RetInt at HC
  rw [alloc_size] at HC
  have HZ := hid (And.intro nb (And.intro np (fun i hi => (hz i hi).2)))
  have H0 := hid h0
  clear np ni nb hz h0
  go_enter Try.func21, Try.ntmps21
  go_wp2_with (go_at_call 30; refine HC.out.mono ?_; clear HC; rintro e w1 ⟨k, c', rfl, hcut, hmc, hW, hi1, hk1⟩; have HN := hid (bytesNum hn HZ.out.2.2 H0.out hcut); have hp1 := hk1.plain HZ.out.2.1; have hW1 := hW.le hcut.le; clear hmc hW hcut)
  have hkn : Kept w.heap.size w1 (w1.setCell ⟨w.heap.size, 0, none⟩ (.bool true)) := Kept.setCell _ _ _ _
  have hi2 : IntAt (w1.setCell ⟨w.heap.size, 0, none⟩ (.bool true)) w.heap.size 0 true (some ⟨w.heap.size + 1, 0, none⟩) k c' := ⟨World.cell?_setCell_same _ _ _ hi1.1, by rw [World.cell?_setCell_other _ _ _ _ (by simp)]; exact hi1.2⟩
  have HP := hid (And.intro (hk1.trans hkn) (And.intro hi2 (And.intro (hkn.wds hW1 (by omega)) (hp1.kept hkn))))
  refine (intNeg_same w1 w.heap.size 0 k c' false (some ⟨w.heap.size + 1, 0, none⟩) HN.out.1.one hp1 hi1).mono ?_
  clear hk1 hi1 hW1 hp1 hkn hi2
  rintro e wy ⟨rfl, hwy⟩
  replace hwy : w1.setCell ⟨w.heap.size, 0, none⟩ (.bool true) = wy := hwy.symm
  rw [hwy] at HP
  clear hwy
  have hsz := HP.out.2.2.2.lt
  obtain ⟨rp, rr, rb⟩ := newRat wy
  have HC := hid (ratSetInt_new (wy.alloc (.cells #[.bool false, .slice none 0 0, .bool false, .slice none 0 0] 70)) wy.heap.size w.heap.size 0 k c' (some ⟨w.heap.size + 1, 0, none⟩) (leW (leB Z n)) true HN.out.1.one (by have := HN.out.1.small; omega) (by omega) rp (HP.out.2.2.2.below rb) rr (HP.out.2.1.below rb) (HP.out.2.2.1.below rb))
  have HQ := hid (And.intro rp rb)
  clear rp rr rb
  go_wp2_with (first
    | (go_at_call 32; refine HC.out.mono ?_; clear HC; rintro e w2 ⟨rfl, gg, cc, g2, cc2, hr1, hr2, hWg, hWg2, hrat, hk2⟩
       have HC34 := hid (ilog2_int w2 wy.heap.size k cc 1 cc2 gg g2 true (leW (leB Z n)) (fun _ => 1) (HQ.out.1.kept hk2) HN.out.1 numOne hrat hWg hWg2 rfl rfl)
       have HK := hid hk2
       clear hWg hWg2 hrat hk2)
    | (go_at_call 34; refine HC34.out.mono ?_; clear HC34; rintro e w4 ⟨rfl, hb4⟩; have HB := hid hb4; clear hb4))
  go_ret
  refine ⟨by rw [HN.out.2]; rfl, ?_⟩
  exact below_then (w := w2) (HK.out.below (by omega) (below_then (w := wy) (HP.out.1.below (Nat.le_refl _) HZ.out.1 (Nat.le_refl _)) HQ.out.2) (Nat.le_refl _)) HB.out

set_option maxRecDepth 100000 in
theorem zzIlog2_tt (w : World) (g n c : Nat) (Z : Nat → Nat) (h1 : 1 ≤ n) (hn : n ≤ 8192) (hnc : n ≤ c) (hz : ∀ i, i < n → w.cell? ⟨g, i, none⟩ = some (.int .u8 (Z i : Nat)) ∧ Z i ≤ 255) (h0 : bval Z n ≠ 0) :
    Calls Try.prog 21 #[.slice (some ⟨g, 0, none⟩) n c, .bool true, .bool true] w (fun e w' => Ilog w w' e (bval Z n) true) := by
  obtain ⟨np, ni, nb⟩ := newInt w
  have HC := hid (intSetBytes_new (w.alloc (.cells #[.bool false, .slice none 0 0] 65)) w.heap.size 0 g 0 n c false Z h1 hn hnc (fun i hi => (hz i hi).2) (fun i hi => by rw [Nat.zero_add]; exact (nb.cell (lt_of_cell (hz i hi).1)).trans (hz i hi).1) np ni)
  unfold RetInt at HC
  rw [alloc_size] at HC
  have HZ := hid (And.intro nb (And.intro np (fun i hi => (hz i hi).2)))
  have H0 := hid h0
  clear np ni nb hz h0
  go_enter Try.func21, Try.ntmps21
  go_wp2_with (go_at_call 30; refine HC.out.mono ?_; clear HC; rintro e w1 ⟨k, c', rfl, hcut, hmc, hW, hi1, hk1⟩; have HN := hid (bytesNum hn HZ.out.2.2 H0.out hcut); have hp1 := hk1.plain HZ.out.2.1; have hW1 := hW.le hcut.le; clear hmc hW hcut)
  have hkn : Kept w.heap.size w1 (w1.setCell ⟨w.heap.size, 0, none⟩ (.bool true)) := Kept.setCell _ _ _ _
  have hi2 : IntAt (w1.setCell ⟨w.heap.size, 0, none⟩ (.bool true)) w.heap.size 0 true (some ⟨w.heap.size + 1, 0, none⟩) k c' := ⟨World.cell?_setCell_same _ _ _ hi1.1, by rw [World.cell?_setCell_other _ _ _ _ (by simp)]; exact hi1.2⟩
  have HP := hid (And.intro (hk1.trans hkn) (And.intro hi2 (And.intro (hkn.wds hW1 (by omega)) (hp1.kept hkn))))
  refine (intNeg_same w1 w.heap.size 0 k c' false (some ⟨w.heap.size + 1, 0, none⟩) HN.out.1.one hp1 hi1).mono ?_
  clear hk1 hi1 hW1 hp1 hkn hi2
  rintro e wy ⟨rfl, hwy⟩
  replace hwy : w1.setCell ⟨w.heap.size, 0, none⟩ (.bool true) = wy := hwy.symm
  rw [hwy] at HP
  clear hwy
  have hsz := HP.out.2.2.2.lt
  obtain ⟨rp, rr, rb⟩ := newRat wy
  have HC := hid (ratSetInt_new (wy.alloc (.cells #[.bool false, .slice none 0 0, .bool false, .slice none 0 0] 70)) wy.heap.size w.heap.size 0 k c' (some ⟨w.heap.size + 1, 0, none⟩) (leW (leB Z n)) true HN.out.1.one (by have := HN.out.1.small; omega) (by omega) rp (HP.out.2.2.2.below rb) rr (HP.out.2.1.below rb) (HP.out.2.2.1.below rb))
  have HQ := hid (And.intro rp rb)
  clear rp rr rb
  go_wp2_with (first
    | (go_at_call 32; refine HC.out.mono ?_; clear HC; rintro e w2 ⟨rfl, gg, cc, g2, cc2, hr1, hr2, hWg, hWg2, hrat, hk2⟩
       have HC33 := hid (ratInv_same w2 wy.heap.size k cc 1 cc2 (some ⟨gg, 0, none⟩) (some ⟨g2, 0, none⟩) true HN.out.1.one (by omega) (HQ.out.1.kept hk2) hrat)
       have HG := hid (And.intro hWg hWg2)
       have HK2 := hid hk2
       clear hWg hWg2 hrat hk2)
    | (go_at_call 33; refine HC33.out.mono ?_; clear HC33; rintro e w3 ⟨rfl, hrat, hk3⟩
       have HC34 := hid (ilog2_inv w3 wy.heap.size 1 cc2 k cc g2 gg true (fun _ => 1) (leW (leB Z n)) ((HQ.out.1.kept HK2.out).kept hk3) numOne HN.out.1 hrat (hk3.wds HG.out.2 (Ne.symm hr2)) (hk3.wds HG.out.1 (Ne.symm hr1)) rfl rfl)
       have HK := hid (HK2.out.trans hk3)
       clear hrat hk3)
    | (go_at_call 34; refine HC34.out.mono ?_; clear HC34; rintro e w4 ⟨rfl, hb4⟩; have HB := hid hb4; clear hb4))
  go_ret
  refine ⟨by rw [HN.out.2]; rfl, ?_⟩
  exact below_then (w := w3) (HK.out.below (by omega) (below_then (w := wy) (HP.out.1.below (Nat.le_refl _) HZ.out.1 (Nat.le_refl _)) HQ.out.2) (Nat.le_refl _)) HB.out

theorem zzIlog2 (w : World) (g n c : Nat) (neg inv : Bool) (Z : Nat → Nat) (h1 : 1 ≤ n) (hn : n ≤ 8192) (hnc : n ≤ c) (hz : ∀ i, i < n → w.cell? ⟨g, i, none⟩ = some (.int .u8 (Z i : Nat)) ∧ Z i ≤ 255) (h0 : bval Z n ≠ 0) :
    Calls Try.prog 21 #[.slice (some ⟨g, 0, none⟩) n c, .bool neg, .bool inv] w (fun e w' => Ilog w w' e (bval Z n) inv) := by
  cases neg <;> cases inv
  · exact zzIlog2_ff w g n c Z h1 hn hnc hz h0
  · exact zzIlog2_ft w g n c Z h1 hn hnc hz h0
  · exact zzIlog2_tf w g n c Z h1 hn hnc hz h0
  · exact zzIlog2_tt w g n c Z h1 hn hnc hz h0
end Go.Proofs.Qxb6002359a.B
