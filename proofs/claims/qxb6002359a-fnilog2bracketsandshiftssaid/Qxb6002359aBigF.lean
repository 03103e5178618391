/- ilog2. -/
import Derived.Test.Qxb6002359aBvalW
namespace Go.Proofs.Qxb6002359a.B
open Go.RowKit Go.ChangeShapes Go.WideShapes Go.ChangeAt
set_option linter.unusedVariables false
set_option linter.unusedSimpArgs false

set_option maxRecDepth 100000 in
theorem ilog2_up (w : World) (r n c n2 c2 g g2 : Nat) (neg : Bool) (W W2 : Nat → Nat) (hp : Plain w r) (hN : Num n W) (hN2 : Num n2 W2) (ri : RatAt w r neg (some ⟨g, 0, none⟩) n c (some ⟨g2, 0, none⟩) n2 c2) (hw : Wds w (some ⟨g, 0, none⟩) n W) (hw2 : Wds w (some ⟨g2, 0, none⟩) n2 W2) (s : Nat) (h1 : 1 ≤ s) (hL : bl n W = s + 1) (hn2 : n2 = 1) (h21 : W2 0 = 1) :
    Calls Try.prog 34 #[.pointer (some ⟨r, 0, none⟩)] w (fun e w' => e = .returned (.int .i64 (s : Nat)) ∧ Below w.heap.size w w') := by
  have HL : Hid (bl n W = s + 1 ∧ bl n2 W2 = 1) := ⟨hL, by subst hn2; unfold bl; simp [h21, show Nat.log2 1 = 0 by decide]⟩
  have hs : s ≤ 960000 := by have := hN.bl_le; omega
  have HX := hid h21
  obtain ⟨m, rfl⟩ : ∃ m, n = m + 1 := ⟨n - 1, by have := hN.one; omega⟩
  subst hn2
  clear hL h21
  obtain ⟨hnp, hni, hnb⟩ := newInt w
  have hrl := hp.lt
  have HCa := hid (ratNum (w.alloc (.cells #[.bool false, .slice none 0 0] 65)) r neg (ri.1.below hnb).1)
  have HCb := hid (intAbs_fresh (w.alloc (.cells #[.bool false, .slice none 0 0] 65)) w.heap.size 0 r 0 (m + 1) c (some ⟨g, 0, none⟩) W false neg hN.one (by have := hN.small; omega) (by omega) hnp (hp.below hnb) hni (ri.1.below hnb) (hw.below hnb))
  rw [alloc_size] at HCb
  have HF := hid (And.intro hnb (And.intro hp (And.intro ri (And.intro hw (And.intro hw2 (And.intro hN hN2))))))
  have HNP := hid hnp
  clear hnp hni hnb hp ri hw hw2 hN hN2
  go_enter Try.func34, Try.ntmps34
  go_wp2_with (first
    | (go_at_call 51; refine HCa.out.mono ?_; clear HCa; rintro e wx ⟨rfl, rfl⟩)
    | (go_at_call 50; refine HCb.out.mono ?_; clear HCb; rintro e w1 ⟨rfl, c1, hcap, hW1, hi1, hk1⟩
       have hri1 : RatAt w1 r neg (some ⟨g, 0, none⟩) (m + 1) c (some ⟨g2, 0, none⟩) 1 c2 := (HF.out.2.2.1.below HF.out.1).kept hk1 (by omega)
       have hgl : g2 < w.heap.size := by { obtain ⟨b, hb, hc⟩ := HF.out.2.2.2.2.1 HF.out.2.2.2.2.2.2.one; cases hb; exact lt_of_cell (hc 0 HF.out.2.2.2.2.2.2.one) }
       have hw21 : Wds w1 (some ⟨g2, 0, none⟩) 1 W2 := hk1.wds (HF.out.2.2.2.2.1.below HF.out.1) (by omega)
       have HCd := hid (ratDenom w1 r 1 c2 (some ⟨g2, 0, none⟩) false HF.out.2.2.2.2.2.2.one hri1.2)
       have HCe := hid (intBitLen w1 w.heap.size 0 (w.heap.size + 1) (m + 1) c1 false W HF.out.2.2.2.2.2.1.one (by have := HF.out.2.2.2.2.2.1.small; omega) (HF.out.2.2.2.2.2.1.word _ (by have := HF.out.2.2.2.2.2.1.one; omega)) HF.out.2.2.2.2.2.1.top hi1 hW1)
       have HCf := hid (intBitLen w1 r 2 g2 1 c2 false W2 HF.out.2.2.2.2.2.2.one (by have := HF.out.2.2.2.2.2.2.small; omega) (HF.out.2.2.2.2.2.2.word _ (by have := HF.out.2.2.2.2.2.2.one; omega)) HF.out.2.2.2.2.2.2.top hri1.2 hw21)
       rw [HL.out.1] at HCe; rw [HL.out.2] at HCf
       have HR := hid (And.intro hcap (And.intro hW1 (And.intro hi1 (And.intro hk1 (And.intro hri1 hw21)))))
       clear hcap hW1 hi1 hk1 hri1 hw21)
    | (go_at_call 52; refine HCd.out.mono ?_; clear HCd; rintro e wx ⟨rfl, rfl⟩)
    | (go_at_call 53; refine HCe.out.mono ?_; clear HCe; rintro e wx ⟨rfl, rfl⟩)
    | (go_at_call 53; refine HCf.out.mono ?_; clear HCf; rintro e wx ⟨rfl, rfl⟩))
  have hk1 := HR.out.2.2.2.1
  have hpn : Plain wx w.heap.size := hk1.plain HNP.out
  have hsz := hpn.lt
  have hsz2 : w.heap.size + 1 < wx.heap.size := by
    obtain ⟨b, hb, hc⟩ := HR.out.2.1 (by omega)
    cases hb
    exact lt_of_cell (hc 0 (by omega))
  obtain ⟨qp, qi, qb⟩ := newInt wx
  have hq : s / 64 = m := by have := HF.out.2.2.2.2.2.1.bl_div; rw [HL.out.1] at this; simpa using this
  have HC := hid (intLsh_one (wx.alloc (.cells #[.bool false, .slice none 0 0] 65)) wx.heap.size 0 r 2 g2 0 0 c2 s m (s % 64) none false false W2 HX.out h1 (by omega) hq rfl (by omega) (by simp) qp qi (HR.out.2.2.2.2.1.2.below qb) (HR.out.2.2.2.2.2.below qb))
  rw [alloc_size] at HC
  have HQ := hid (And.intro qp (And.intro qb (And.intro hpn (And.intro hk1 hq))))
  clear qp qi qb hpn hk1 hq
  refine HC.out.mono ?_
  clear HC
  rintro e w2 ⟨rfl, c3, hiB, hWB, hkB⟩
  have hge : ¬ cmpZ (m + 1) W (powW m (s % 64)) < 0 := by
    have h1 := HF.out.2.2.2.2.2.1.val_ge
    rw [HL.out.1, Nat.add_sub_cancel] at h1
    have h2 := valW_pow m (s % 64)
    rw [show 64 * m + s % 64 = s by have := HQ.out.2.2.2.2; omega] at h2
    unfold cmpZ
    rw [if_neg (by omega)]
    split <;> omega
  have HC := hid (intCmp w2 w.heap.size 0 wx.heap.size 0 (w.heap.size + 1) (wx.heap.size + 1) (m + 1) c1 c3 W (powW m (s % 64)) (by omega) (by have := HF.out.2.2.2.2.2.1.small; omega) (by omega) ((HQ.out.2.2.1.below HQ.out.2.1).kept hkB) (HQ.out.1.kept hkB) ((HR.out.2.2.1.below HQ.out.2.1).kept hkB (by omega)) hiB HF.out.2.2.2.2.2.1.word (fun j _ => powW_word (by omega) j) (hkB.wds (HR.out.2.1.below HQ.out.2.1) (by omega)) hWB)
  have HK := hid hkB
  clear hiB hWB hkB
  generalize cmpZ (m + 1) W (powW m (s % 64)) = z at *
  go_wp2_with (go_at_call 55; refine HC.out.mono ?_; clear HC; rintro e w3 ⟨rfl, q, rfl⟩)
  go_ret
  refine ⟨rfl, below_drewN ?_ q⟩
  exact below_then (w := wx) (HQ.out.2.2.2.1.below (Nat.le_refl _) HF.out.1 (Nat.le_refl _)) (HK.out.below (Nat.le_refl _) HQ.out.2.1 (Nat.le_refl _))

set_option maxRecDepth 100000 in
theorem ilog2_one (w : World) (r n c n2 c2 g g2 : Nat) (neg : Bool) (W W2 : Nat → Nat) (hp : Plain w r) (hN : Num n W) (hN2 : Num n2 W2) (ri : RatAt w r neg (some ⟨g, 0, none⟩) n c (some ⟨g2, 0, none⟩) n2 c2) (hw : Wds w (some ⟨g, 0, none⟩) n W) (hw2 : Wds w (some ⟨g2, 0, none⟩) n2 W2) (hn : n = 1) (h11 : W 0 = 1) (hn2 : n2 = 1) (h21 : W2 0 = 1) :
    Calls Try.prog 34 #[.pointer (some ⟨r, 0, none⟩)] w (fun e w' => e = .returned (.int .i64 0) ∧ Below w.heap.size w w') := by
  have HL : Hid (bl n W = 1 ∧ bl n2 W2 = 1) := ⟨by subst hn; unfold bl; simp [h11, show Nat.log2 1 = 0 by decide], by subst hn2; unfold bl; simp [h21, show Nat.log2 1 = 0 by decide]⟩
  have HX := hid (And.intro h11 h21)
  subst hn
  subst hn2
  clear h11 h21
  obtain ⟨hnp, hni, hnb⟩ := newInt w
  have hrl := hp.lt
  have HCa := hid (ratNum (w.alloc (.cells #[.bool false, .slice none 0 0] 65)) r neg (ri.1.below hnb).1)
  have HCb := hid (intAbs_fresh (w.alloc (.cells #[.bool false, .slice none 0 0] 65)) w.heap.size 0 r 0 1 c (some ⟨g, 0, none⟩) W false neg hN.one (by have := hN.small; omega) (by omega) hnp (hp.below hnb) hni (ri.1.below hnb) (hw.below hnb))
  rw [alloc_size] at HCb
  have HF := hid (And.intro hnb (And.intro hp (And.intro ri (And.intro hw (And.intro hw2 (And.intro hN hN2))))))
  have HNP := hid hnp
  clear hnp hni hnb hp ri hw hw2 hN hN2
  go_enter Try.func34, Try.ntmps34
  go_wp2_with (first
    | (go_at_call 51; refine HCa.out.mono ?_; clear HCa; rintro e wx ⟨rfl, rfl⟩)
    | (go_at_call 50; refine HCb.out.mono ?_; clear HCb; rintro e w1 ⟨rfl, c1, hcap, hW1, hi1, hk1⟩
       have hri1 : RatAt w1 r neg (some ⟨g, 0, none⟩) 1 c (some ⟨g2, 0, none⟩) 1 c2 := (HF.out.2.2.1.below HF.out.1).kept hk1 (by omega)
       have hgl : g2 < w.heap.size := by { obtain ⟨b, hb, hc⟩ := HF.out.2.2.2.2.1 HF.out.2.2.2.2.2.2.one; cases hb; exact lt_of_cell (hc 0 HF.out.2.2.2.2.2.2.one) }
       have hw21 : Wds w1 (some ⟨g2, 0, none⟩) 1 W2 := hk1.wds (HF.out.2.2.2.2.1.below HF.out.1) (by omega)
       have HCd := hid (ratDenom w1 r 1 c2 (some ⟨g2, 0, none⟩) false HF.out.2.2.2.2.2.2.one hri1.2)
       have HCe := hid (intBitLen w1 w.heap.size 0 (w.heap.size + 1) 1 c1 false W HF.out.2.2.2.2.2.1.one (by have := HF.out.2.2.2.2.2.1.small; omega) (HF.out.2.2.2.2.2.1.word _ (by have := HF.out.2.2.2.2.2.1.one; omega)) HF.out.2.2.2.2.2.1.top hi1 hW1)
       have HCf := hid (intBitLen w1 r 2 g2 1 c2 false W2 HF.out.2.2.2.2.2.2.one (by have := HF.out.2.2.2.2.2.2.small; omega) (HF.out.2.2.2.2.2.2.word _ (by have := HF.out.2.2.2.2.2.2.one; omega)) HF.out.2.2.2.2.2.2.top hri1.2 hw21)
       rw [HL.out.1] at HCe; rw [HL.out.2] at HCf
       have HR := hid (And.intro hcap (And.intro hW1 (And.intro hi1 (And.intro hk1 (And.intro hri1 hw21)))))
       clear hcap hW1 hi1 hk1 hri1 hw21)
    | (go_at_call 52; refine HCd.out.mono ?_; clear HCd; rintro e wx ⟨rfl, rfl⟩)
    | (go_at_call 53; refine HCe.out.mono ?_; clear HCe; rintro e wx ⟨rfl, rfl⟩)
    | (go_at_call 53; refine HCf.out.mono ?_; clear HCf; rintro e wx ⟨rfl, rfl⟩))
  have hk1 := HR.out.2.2.2.1
  have hpn : Plain wx w.heap.size := hk1.plain HNP.out
  have hpr : Plain wx r := (HF.out.2.1.below HF.out.1).kept hk1
  have hsz := hpn.lt
  have HC : Hid (Calls Try.prog 54 #[.pointer (some ⟨w.heap.size, 0, none⟩), .pointer (some ⟨w.heap.size, 0, none⟩), .int .u64 0] wx (fun e w' => e = .returned (.pointer (some ⟨w.heap.size, 0, none⟩)) ∧ IntAt w' w.heap.size 0 false (some ⟨w.heap.size + 1, 0, none⟩) 1 c1 ∧ Kept w.heap.size wx w')) := intLsh_zero wx w.heap.size 0 (w.heap.size + 1) 1 c1 false (by omega) hpn HR.out.2.2.1
  have HQ := hid (And.intro hpn (And.intro hpr hk1))
  clear hpn hpr hk1
  refine HC.out.mono ?_
  clear HC
  rintro e w2 ⟨rfl, hiA, hkA⟩
  have HC := hid (intCmp w2 w.heap.size 0 r 2 (w.heap.size + 1) g2 1 c1 c2 W W2 (by omega) (by omega) (by omega) (HQ.out.1.kept hkA) (HQ.out.2.1.kept hkA) hiA (HR.out.2.2.2.2.1.2.kept hkA (by omega)) HF.out.2.2.2.2.2.1.word HF.out.2.2.2.2.2.2.word (hkA.wds HR.out.2.1 (by omega)) (hkA.wds HR.out.2.2.2.2.2 (by omega)))
  rw [cmpZ_eq (fun j hj => by obtain rfl : j = 0 := (by omega); rw [HX.out.1, HX.out.2])] at HC
  have HK := hid hkA
  clear hiA hkA
  go_wp2_with (go_at_call 55; refine HC.out.mono ?_; clear HC; rintro e w3 ⟨rfl, q, rfl⟩)
  go_ret
  refine ⟨rfl, below_drewN ?_ q⟩
  exact (HQ.out.2.2.trans HK.out).below (Nat.le_refl _) HF.out.1 (Nat.le_refl _)

set_option maxRecDepth 100000 in
theorem ilog2_down (w : World) (r n c n2 c2 g g2 : Nat) (neg : Bool) (W W2 : Nat → Nat) (hp : Plain w r) (hN : Num n W) (hN2 : Num n2 W2) (ri : RatAt w r neg (some ⟨g, 0, none⟩) n c (some ⟨g2, 0, none⟩) n2 c2) (hw : Wds w (some ⟨g, 0, none⟩) n W) (hw2 : Wds w (some ⟨g2, 0, none⟩) n2 W2) (s : Nat) (h1 : 1 ≤ s) (hL : bl n2 W2 = s + 1) (hn : n = 1) (h11 : W 0 = 1) :
    Calls Try.prog 34 #[.pointer (some ⟨r, 0, none⟩)] w (fun e w' => e = .returned (.int .i64 (lgInv (valW W2 n2))) ∧ Below w.heap.size w w') := by
  have HL : Hid (bl n W = 1 ∧ bl n2 W2 = s + 1) := ⟨by subst hn; unfold bl; simp [h11, show Nat.log2 1 = 0 by decide], hL⟩
  have hs : s ≤ 960000 := by have := hN2.bl_le; omega
  have HX := hid h11
  obtain ⟨m, rfl⟩ : ∃ m, n2 = m + 1 := ⟨n2 - 1, by have := hN2.one; omega⟩
  subst hn
  clear hL h11
  obtain ⟨hnp, hni, hnb⟩ := newInt w
  have hrl := hp.lt
  have HCa := hid (ratNum (w.alloc (.cells #[.bool false, .slice none 0 0] 65)) r neg (ri.1.below hnb).1)
  have HCb := hid (intAbs_fresh (w.alloc (.cells #[.bool false, .slice none 0 0] 65)) w.heap.size 0 r 0 1 c (some ⟨g, 0, none⟩) W false neg hN.one (by have := hN.small; omega) (by omega) hnp (hp.below hnb) hni (ri.1.below hnb) (hw.below hnb))
  rw [alloc_size] at HCb
  have HF := hid (And.intro hnb (And.intro hp (And.intro ri (And.intro hw (And.intro hw2 (And.intro hN hN2))))))
  have HNP := hid hnp
  clear hnp hni hnb hp ri hw hw2 hN hN2
  go_enter Try.func34, Try.ntmps34
  go_wp2_with (first
    | (go_at_call 51; refine HCa.out.mono ?_; clear HCa; rintro e wx ⟨rfl, rfl⟩)
    | (go_at_call 50; refine HCb.out.mono ?_; clear HCb; rintro e w1 ⟨rfl, c1, hcap, hW1, hi1, hk1⟩
       have hri1 : RatAt w1 r neg (some ⟨g, 0, none⟩) 1 c (some ⟨g2, 0, none⟩) (m + 1) c2 := (HF.out.2.2.1.below HF.out.1).kept hk1 (by omega)
       have hgl : g2 < w.heap.size := by { obtain ⟨b, hb, hc⟩ := HF.out.2.2.2.2.1 HF.out.2.2.2.2.2.2.one; cases hb; exact lt_of_cell (hc 0 HF.out.2.2.2.2.2.2.one) }
       have hw21 : Wds w1 (some ⟨g2, 0, none⟩) (m + 1) W2 := hk1.wds (HF.out.2.2.2.2.1.below HF.out.1) (by omega)
       have HCd := hid (ratDenom w1 r (m + 1) c2 (some ⟨g2, 0, none⟩) false HF.out.2.2.2.2.2.2.one hri1.2)
       have HCe := hid (intBitLen w1 w.heap.size 0 (w.heap.size + 1) 1 c1 false W HF.out.2.2.2.2.2.1.one (by have := HF.out.2.2.2.2.2.1.small; omega) (HF.out.2.2.2.2.2.1.word _ (by have := HF.out.2.2.2.2.2.1.one; omega)) HF.out.2.2.2.2.2.1.top hi1 hW1)
       have HCf := hid (intBitLen w1 r 2 g2 (m + 1) c2 false W2 HF.out.2.2.2.2.2.2.one (by have := HF.out.2.2.2.2.2.2.small; omega) (HF.out.2.2.2.2.2.2.word _ (by have := HF.out.2.2.2.2.2.2.one; omega)) HF.out.2.2.2.2.2.2.top hri1.2 hw21)
       rw [HL.out.1] at HCe; rw [HL.out.2] at HCf
       have HR := hid (And.intro hcap (And.intro hW1 (And.intro hi1 (And.intro hk1 (And.intro hri1 hw21)))))
       clear hcap hW1 hi1 hk1 hri1 hw21)
    | (go_at_call 52; refine HCd.out.mono ?_; clear HCd; rintro e wx ⟨rfl, rfl⟩)
    | (go_at_call 53; refine HCe.out.mono ?_; clear HCe; rintro e wx ⟨rfl, rfl⟩)
    | (go_at_call 53; refine HCf.out.mono ?_; clear HCf; rintro e wx ⟨rfl, rfl⟩))
  rw [show (1 : Int) - ((s : Int) + 1) = -(s : Int) by omega, Int.neg_neg]
  have hk1 := HR.out.2.2.2.1
  have hpn : Plain wx w.heap.size := hk1.plain HNP.out
  have hpr : Plain wx r := (HF.out.2.1.below HF.out.1).kept hk1
  have hsz := hpn.lt
  have hq : s / 64 = m := by have := HF.out.2.2.2.2.2.2.bl_div; rw [HL.out.2] at this; simpa using this
  have hc1 : c1 = 1 := HR.out.1.2 rfl
  have HC := hid (intLsh_one wx w.heap.size 0 w.heap.size 0 (w.heap.size + 1) 1 c1 c1 s m (s % 64) (some ⟨w.heap.size + 1, 0, none⟩) false false W HX.out h1 (by omega) hq rfl (by omega) (by simp) hpn HR.out.2.2.1 HR.out.2.2.1 HR.out.2.1)
  have HQ := hid (And.intro hpn (And.intro hpr (And.intro hk1 hq)))
  clear hpn hpr hk1 hq hc1
  refine HC.out.mono ?_
  clear HC
  rintro e w2 ⟨rfl, c3, hiB, hWB, hkB⟩
  have HC := hid (intCmp w2 w.heap.size 0 r 2 wx.heap.size g2 (m + 1) c3 c2 (powW m (s % 64)) W2 (by omega) (by have := HF.out.2.2.2.2.2.2.small; omega) (by omega) (HQ.out.1.kept hkB) (HQ.out.2.1.kept hkB) hiB (HR.out.2.2.2.2.1.2.kept hkB (by omega)) (fun j _ => powW_word (by omega) j) HF.out.2.2.2.2.2.2.word hWB (hkB.wds HR.out.2.2.2.2.2 (by omega)))
  have HK := hid hkB
  clear hiB hWB hkB
  have h2 := valW_pow m (s % 64)
  rw [show 64 * m + s % 64 = s by have := HQ.out.2.2.2; omega] at h2
  have h3 := HF.out.2.2.2.2.2.2.val_ge
  rw [HL.out.2, Nat.add_sub_cancel] at h3
  have h4 := HF.out.2.2.2.2.2.2.log2
  rw [HL.out.2] at h4
  have h5 : Nat.log2 (valW W2 (m + 1)) = s := by omega
  by_cases he : valW W2 (m + 1) = 2 ^ s
  · have hge : ¬ cmpZ (m + 1) (powW m (s % 64)) W2 < 0 := by
      unfold cmpZ
      rw [if_neg (by omega)]
      split <;> omega
    have hr : lgInv (valW W2 (m + 1)) = -(s : Int) := by unfold lgInv; rw [h5, if_pos he]
    have HRR := hid hr
    clear hr h2 h3 h4 h5 he
    generalize cmpZ (m + 1) (powW m (s % 64)) W2 = z at *
    go_wp2_with (go_at_call 55; refine HC.out.mono ?_; clear HC; rintro e w3 ⟨rfl, q, rfl⟩)
    go_ret
    refine ⟨by rw [HRR.out]; rfl, below_drewN ?_ q⟩
    exact (HQ.out.2.2.1.trans HK.out).below (Nat.le_refl _) HF.out.1 (Nat.le_refl _)
  · have hge : cmpZ (m + 1) (powW m (s % 64)) W2 < 0 := by
      unfold cmpZ
      rw [if_pos (by omega)]
      omega
    have hr : lgInv (valW W2 (m + 1)) = -(s : Int) - 1 := by unfold lgInv; rw [h5, if_neg he]
    have HRR := hid hr
    clear hr h2 h3 h4 h5 he
    generalize cmpZ (m + 1) (powW m (s % 64)) W2 = z at *
    go_wp2_with (go_at_call 55; refine HC.out.mono ?_; clear HC; rintro e w3 ⟨rfl, q, rfl⟩)
    go_ret
    refine ⟨by rw [HRR.out]; rfl, below_drewN ?_ q⟩
    exact (HQ.out.2.2.1.trans HK.out).below (Nat.le_refl _) HF.out.1 (Nat.le_refl _)

theorem bl_one {n : Nat} {W : Nat → Nat} (h : Num n W) (hL : bl n W = 1) : n = 1 ∧ W 0 = 1 := by
  have hd := h.bl_div
  have hm := h.bl_mod
  have h1 := h.one
  have ht := h.top
  rw [hL] at hd hm
  obtain rfl : n = 1 := by omega
  refine ⟨rfl, ?_⟩
  have h2 : W 0 < 2 ^ (Nat.log2 (W 0) + 1) := Nat.lt_log2_self
  have h3 : Nat.log2 (W 0) = 0 := hm.symm
  rw [h3] at h2
  simp only [Nat.sub_self] at ht
  omega
/-- ilog2 of an integer -/
theorem ilog2_int (w : World) (r n c n2 c2 g g2 : Nat) (neg : Bool) (W W2 : Nat → Nat) (hp : Plain w r) (hN : Num n W) (hN2 : Num n2 W2) (ri : RatAt w r neg (some ⟨g, 0, none⟩) n c (some ⟨g2, 0, none⟩) n2 c2) (hw : Wds w (some ⟨g, 0, none⟩) n W) (hw2 : Wds w (some ⟨g2, 0, none⟩) n2 W2) (hn2 : n2 = 1) (h21 : W2 0 = 1) :
    Calls Try.prog 34 #[.pointer (some ⟨r, 0, none⟩)] w (fun e w' => e = .returned (.int .i64 (lg (valW W n))) ∧ Below w.heap.size w w') := by
  have hb := hN.bl_le
  have hl := hN.log2
  by_cases hL : bl n W = 1
  · obtain ⟨h1, h2⟩ := bl_one hN hL
    have e : lg (valW W n) = 0 := by unfold lg; rw [show Nat.log2 (valW W n) = 0 by omega]; rfl
    rw [e]
    exact ilog2_one w r n c n2 c2 g g2 neg W W2 hp hN hN2 ri hw hw2 h1 h2 hn2 h21
  · have e : lg (valW W n) = ((bl n W - 1 : Nat) : Int) := by unfold lg; rw [show Nat.log2 (valW W n) = bl n W - 1 by omega]
    rw [e]
    exact ilog2_up w r n c n2 c2 g g2 neg W W2 hp hN hN2 ri hw hw2 (bl n W - 1) (by omega) (by omega) hn2 h21
/-- ilog2 of an integer's inverse -/
theorem ilog2_inv (w : World) (r n c n2 c2 g g2 : Nat) (neg : Bool) (W W2 : Nat → Nat) (hp : Plain w r) (hN : Num n W) (hN2 : Num n2 W2) (ri : RatAt w r neg (some ⟨g, 0, none⟩) n c (some ⟨g2, 0, none⟩) n2 c2) (hw : Wds w (some ⟨g, 0, none⟩) n W) (hw2 : Wds w (some ⟨g2, 0, none⟩) n2 W2) (hn : n = 1) (h11 : W 0 = 1) :
    Calls Try.prog 34 #[.pointer (some ⟨r, 0, none⟩)] w (fun e w' => e = .returned (.int .i64 (lgInv (valW W2 n2))) ∧ Below w.heap.size w w') := by
  have hb := hN2.bl_le
  by_cases hL : bl n2 W2 = 1
  · obtain ⟨h1, h2⟩ := bl_one hN2 hL
    have e : lgInv (valW W2 n2) = 0 := by
      subst h1
      have : valW W2 1 = 1 := by simp [valW, h2]
      rw [this]
      unfold lgInv
      rw [show Nat.log2 1 = 0 by decide]
      rfl
    rw [e]
    exact ilog2_one w r n c n2 c2 g g2 neg W W2 hp hN hN2 ri hw hw2 hn h11 h1 h2
  · exact ilog2_down w r n c n2 c2 g g2 neg W W2 hp hN hN2 ri hw hw2 (bl n2 W2 - 1) (by omega) (by omega) hn h11
end Go.Proofs.Qxb6002359a.B
