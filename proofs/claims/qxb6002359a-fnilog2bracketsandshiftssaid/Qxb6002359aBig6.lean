/- math/big: nat.setBytes on nil. -/
import Derived.Test.Qxb6002359aBig5
namespace Go.Proofs.Qxb6002359a.B
open Go.RowKit Go.ChangeShapes Go.WideShapes Go.ChangeAt
set_option linter.unusedVariables false
set_option linter.unusedSimpArgs false

/-- the bytes from the least on -/
def leB (Z : Nat → Nat) (n t : Nat) : Nat := if t < n then Z (n - 1 - t) else 0
/-- word j of them -/
def leW (Y : Nat → Nat) (j : Nat) : Nat := Y (8 * j) + Y (8 * j + 1) * 256 + Y (8 * j + 2) * 65536 + Y (8 * j + 3) * 16777216 + Y (8 * j + 4) * 4294967296 + Y (8 * j + 5) * 1099511627776 + Y (8 * j + 6) * 281474976710656 + Y (8 * j + 7) * 72057594037927936
/-- the first t bytes of word j -/
def part (Y : Nat → Nat) (j : Nat) : Nat → Nat
  | 0 => 0
  | t + 1 => part Y j t + Y (8 * j + t) * 256 ^ t
theorem leB_le {Z : Nat → Nat} {n : Nat} (h : ∀ i, i < n → Z i ≤ 255) (t : Nat) : leB Z n t ≤ 255 := by
  unfold leB
  split
  · exact h _ (by omega)
  · omega
theorem part_lt {Y : Nat → Nat} (h : ∀ t, Y t ≤ 255) (j : Nat) : ∀ t, part Y j t < 256 ^ t
  | 0 => by simp [part]
  | t + 1 => by
    have := part_lt h j t
    have h2 := h (8 * j + t)
    unfold part
    rw [Nat.pow_succ]
    have : Y (8 * j + t) * 256 ^ t ≤ 255 * 256 ^ t := Nat.mul_le_mul_right _ h2
    omega
theorem part_8 (Y : Nat → Nat) (j : Nat) : part Y j 8 = leW Y j := by
  simp only [part, leW, Nat.add_zero]
  simp only [Nat.pow_zero, Nat.mul_one, Nat.reducePow]
  omega
/-- the bytes behind are 0 -/
theorem part_stop {Y : Nat → Nat} (j t : Nat) (h : ∀ u, t ≤ u → Y (8 * j + u) = 0) : ∀ d, part Y j (t + d) = part Y j t
  | 0 => rfl
  | d + 1 => by
    show part Y j (t + d) + Y (8 * j + (t + d)) * 256 ^ (t + d) = _
    rw [part_stop j t h d, h (t + d) (by omega), Nat.zero_mul, Nat.add_zero]

theorem be8_leW (Z : Nat → Nat) (n r k : Nat) (h : r + 8 + 8 * k = n) : be8 (fun t => Z (r + t)) = leW (leB Z n) k := by
  subst h
  have e : ∀ t, t < 8 → leB Z (r + 8 + 8 * k) (8 * k + t) = Z (r + (7 - t)) := fun t ht => by
    unfold leB
    rw [if_pos (by omega)]
    congr 1
    omega
  unfold be8 leW
  rw [e 1 (by omega), e 2 (by omega), e 3 (by omega), e 4 (by omega), e 5 (by omega), e 6 (by omega), e 7 (by omega)]
  have e0 : leB Z (r + 8 + 8 * k) (8 * k) = Z (r + 7) := e 0 (by omega)
  rw [e0]
  simp only [Nat.reduceSub]
  omega

theorem or_part (p z t : Nat) (ht : t ≤ 7) (hz : z ≤ 255) (hp : p < 256 ^ t) : bits .or .u64 (p : Int) (IntKind.u64.wrap (IntKind.u64.wrap (z : Int) * 2 ^ (8 * t))) = ((p + z * 256 ^ t : Nat) : Int) := by
  have hpow : (2 : Nat) ^ (8 * t) = 256 ^ t := by rw [Nat.pow_mul]
  have hle : 256 ^ t ≤ 256 ^ 7 := Nat.pow_le_pow_right (by omega) ht
  have hmul : z * 256 ^ t ≤ 255 * 256 ^ 7 := Nat.mul_le_mul hz hle
  have e1 : IntKind.u64.wrap (z : Int) = (z : Int) := by rw [IntKind.wrap_u64]; omega
  have e2 : (z : Int) * 2 ^ (8 * t) = ((z * 256 ^ t : Nat) : Int) := by rw [← hpow]; simp
  have e3 : IntKind.u64.wrap ((z * 256 ^ t : Nat) : Int) = ((z * 256 ^ t : Nat) : Int) := by rw [IntKind.wrap_u64]; omega
  rw [e1, e2, e3, Int.natCast_mul, or_step (8 * t) (256 ^ t) p z hpow hp (by omega)]
  rw [Nat.add_comm]
theorem below_drewN {B : Nat} {a w : World} (h : Below B a w) (n : Nat) : Below B a (w.drewN n) := h.trans ⟨rfl, rfl, rfl, Nat.le_refl _, fun _ _ => rfl⟩
theorem elem30 : Try.prog.elem 30 = 5 := by kernel_rfl
theorem und30 : Try.prog.underlying 30 = some (.slice (Try.prog.elem 30)) := by rw [elem30]; exact Try.underlying30
theorem cut30 (b o n c l h : Nat) (h1 : l ≤ h) (h2 : h ≤ c) (h3 : l < c) (w : World) : (Instr.slice 30 (.slice (some ⟨b, o, none⟩) n c) (some (.int .i64 (l : Int))) (some (.int .i64 (h : Int))) none).run Try.prog w = .ok (.slice (some ⟨b, o + l, none⟩) (h - l) (c - l)) w := by
  have h2' : (sizeOf (Try.prog.elem 30)).run Try.prog w = .ok 1 w := by rw [elem30]; exact Try.sizeOf5 w
  rw [run_slice_lh (P := Try.prog) w 30 (some ⟨b, o, none⟩) n c und30 .i64 .i64 (l : Int) (h : Int) (by omega) (by omega) (by omega), h2']
  have h4 : sliced (some ⟨b, o, none⟩) (l : Int).toNat (h : Int).toNat c 1 = .slice (some ⟨b, o + l, none⟩) (h - l) (c - l) := by
    unfold sliced
    simp [Go.WideShapes.add_plain]
    omega
  show Result.ok (sliced (some ⟨b, o, none⟩) (l : Int).toNat (h : Int).toNat c 1) w = _
  rw [h4]

/-- the row behind k words -/
def rowK (Y : Nat → Nat) (k j : Nat) : Value := if j < k then .int .u64 (leW Y j : Nat) else .int .u64 0
theorem rowK_set {w : World} {g c k : Nat} {Y : Nat → Nat} (h : w.rowIs g 87 c (rowK Y k)) : (w.setCell ⟨g, k, none⟩ (.int .u64 (leW Y k : Nat))).rowIs g 87 c (rowK Y (k + 1)) :=
  (h.set k _).congr fun j hj => by
    unfold rowK
    by_cases e : j = k
    · subst e; rw [if_pos rfl, if_pos (by omega)]
    · rw [if_neg e]
      by_cases e2 : j < k
      · rw [if_pos e2, if_pos (by omega)]
      · rw [if_neg e2, if_neg (by omega)]

def RetBytes (w w' : World) (e : Ending) (m : Nat) (Y : Nat → Nat) : Prop := ∃ k c, e = .returned (.slice (some ⟨w.heap.size, 0, none⟩) k c) ∧ Cut m k (leW Y) ∧ m ≤ c ∧ Wds w' (some ⟨w.heap.size, 0, none⟩) m (leW Y) ∧ Below w.heap.size w w'

set_option maxRecDepth 100000 in
set_option maxHeartbeats 1000000 in
theorem setBytes_nil (w : World) (b o n c : Nat) (Z : Nat → Nat) (h1 : 1 ≤ n) (hn : n ≤ 8192) (hnc : n ≤ c) (hz : ∀ i, i < n → Z i ≤ 255) (hc : ∀ i, i < n → w.cell? ⟨b, o + i, none⟩ = some (.int .u8 (Z i : Nat))) :
    Calls Try.prog 46 #[.slice none 0 0, .slice (some ⟨b, o, none⟩) n c] w (fun e w' => RetBytes w w' e ((n + 7) / 8) (leB Z n)) := by
  obtain ⟨m, hm⟩ : ∃ m, m = (n + 7) / 8 := ⟨_, rfl⟩
  have hm1 : m ≤ 65536 := by omega
  have hm0 : 0 < m := by omega
  have HC := hid (make_new w none 0 0 m hm1 hm0)
  have HB := hid (And.intro hz hc)
  have hbl := lt_of_cell (hc 0 h1)
  have hmi : ((n : Int) + 8 - 1) / 8 = (m : Int) := by omega
  rw [← hm]
  have HM := hid hm
  clear hz hc hm
  go_enter Try.func46, Try.ntmps46
  go_upto_region 3 with (go_at_call 58; refine HC.out.mono ?_; clear HC; rintro e w1 ⟨cc, rfl, hc1, hc2, hr, hb⟩)
  rename_i K1 hh1 K0 hh0
  have HK : Hid (∀ (a : Act) (w : World), _ → K1 a w) := hh1
  clear hh1
  have HR := hid (And.intro hr hb)
  clear hr hb hmi
  go_wp2_with fail
  go_loopw [5, 6] (fun i k wr => ∃ (kk r : Nat), r + 8 * kk = n ∧ i = .int .i64 r ∧ k = .int .i64 kk ∧ wr.rowIs w.heap.size 87 cc (rowK (leB Z n) kk) ∧ Below w.heap.size w wr) (fun i _ _ => (intOf i).toNat)
  case atStart => exact ⟨0, n, by omega, rfl, rfl, HR.out.1.congr fun j hj => by simp [rowK], HR.out.2⟩
  case round =>
    obtain ⟨kk, r, hrk, rfl, rfl, hrow, hbel⟩ := hrel
    have hM := HM.out
    by_cases h8 : 8 ≤ r
    · have h8' : (8 : Int) ≤ r := by omega
      obtain ⟨r', hr'⟩ : ∃ r', r = r' + 8 := ⟨r - 8, by omega⟩
      have hkk : (kk : Int) < m := by omega
      have hrn : r ≤ n := by omega
      have hsl : ∀ wx, (Instr.slice 30 (.slice (some ⟨b, o, none⟩) n c) (some (.int .i64 ((r : Int) - 8))) (some (.int .i64 (r : Int))) none).run Try.prog wx = .ok (.slice (some ⟨b, o + r', none⟩) 8 (c - r')) wx := fun wx => by
        have h := cut30 b o n c r' r (by omega) (by omega) (by omega) wx
        rwa [show r - r' = 8 by omega, show (r' : Int) = (r : Int) - 8 by omega] at h
      have hcells : ∀ i, i < 8 → wr.cell? ⟨b, o + r' + i, none⟩ = some (.int .u8 (Z (r' + i) : Nat)) := fun i hi => by
        rw [hbel.cell hbl, Nat.add_assoc]; exact HB.out.2 _ (by omega)
      have HC59 := hid (beWord_any wr b (o + r') 8 (c - r') (fun t => Z (r' + t)) (Nat.le_refl _) (fun i hi => HB.out.1 _ (by omega)) hcells)
      have hbe : be8 (fun t => Z (r' + t)) = leW (leB Z n) kk := be8_leW Z n r' kk (by omega)
      rw [hbe] at HC59
      have HR2 := hid (And.intro hrow hbel)
      have HN := hid (And.intro hrk hr')
      clear hcells hbe hrow hbel hrk hr' hM h8
      go_wp2_with (go_at_call 59; refine HC59.out.mono ?_; clear HC59; rintro e w2 ⟨rfl, q, hq⟩; have hrow2 : w2.rowIs w.heap.size 87 cc (rowK (leB Z n) kk) := by { subst hq; exact HR2.out.1 }; have hbel2 : Below w.heap.size w w2 := by { subst hq; exact below_drewN HR2.out.2 q }; have c0 := hrow2.cell (i := kk) (by omega); have f0 := hrow2.frozen kk; have hbel3 : Below w.heap.size w (w2.setCell ⟨w.heap.size, kk, none⟩ (.int .u64 (leW (leB Z n) kk : Nat))) := hbel2.setCell (Nat.le_refl _) _; have HR3 := hid (And.intro (rowK_set hrow2) hbel3); clear hbel3 hq hrow2 hbel2)
      refine ⟨⟨kk + 1, r', by have := HN.out.1; have := HN.out.2; omega, ?_, ?_, HR3.out.1, HR3.out.2⟩, ?_⟩
      · rw [show (r : Int) - 8 = (r' : Int) by have := HN.out.2; omega]
      · rw [Int.natCast_add]; rfl
      · simp only [intOf]; omega
    · have h8' : ¬ (8 : Int) ≤ r := by omega
      have HR2 := hid (And.intro hrow hbel)
      clear hrow hbel
      by_cases h0 : r = 0
      · subst h0
        have hw : Wds wr (some ⟨w.heap.size, 0, none⟩) m (leW (leB Z n)) := fun _ => ⟨_, rfl, fun i hi => by
          rw [HR2.out.1.cell (by omega), rowK, if_pos (by omega)]⟩
        clear hrk hM h8
        have HN := hid (norm_any wr (some ⟨w.heap.size, 0, none⟩) m cc (leW (leB Z n)) hm1 hc1 hw)
        go_wp2_with fail
        refine HK.out _ _ ?_
        clear HK
        go_wp2_with (go_at_call 60; refine HN.out.mono ?_; clear HN; rintro e w2 ⟨k, rfl, hcut, rfl⟩)
        go_ret
        exact ⟨k, cc, rfl, hcut, hc1, hw, HR2.out.2⟩
      · have h0' : (0 : Int) < r := by omega
        have HF := hid (And.intro hrk (show m = kk + 1 by omega))
        have hrn : r ≤ n := by omega
        clear hrk hM h8
        go_wp2_with fail
        refine HK.out _ _ ?_
        clear HK
        go_wp2_with fail
        go_loopw [5, 7, 8] (fun i d s wx => ∃ (t r2 : Nat), r2 + t = r ∧ i = .int .i64 r2 ∧ d = .int .u64 (part (leB Z n) kk t : Nat) ∧ s = .int .u64 (8 * t : Nat) ∧ wx = wr) (fun i _ _ _ => (intOf i).toNat)
        case atStart => exact ⟨0, r, by omega, rfl, rfl, rfl, rfl⟩
        case round =>
          obtain ⟨t, r2, hrt, rfl, rfl, rfl, rfl⟩ := hrel
          have hr2n : r2 ≤ n := by omega
          have ht8 : t ≤ 7 := by omega
          have HT := hid hrt
          by_cases h2 : r2 = 0
          · subst h2
            obtain rfl : t = r := by omega
            have hpart : part (leB Z n) kk t = leW (leB Z n) kk := by
              rw [← part_8, show 8 = t + (8 - t) by omega]
              exact (part_stop kk t (fun u hu => by have := HF.out.1; unfold leB; rw [if_neg (by omega)]) _).symm
            rw [hpart]
            have c0 := HR2.out.1.cell (i := m - 1) (by omega)
            have f0 := HR2.out.1.frozen (m - 1)
            have hkm : m - 1 = kk := by have := HF.out.2; omega
            have HS := hid (rowK_set HR2.out.1)
            have HS2 : Hid (Below w.heap.size w (wr.setCell ⟨w.heap.size, kk, none⟩ (.int .u64 (leW (leB Z n) kk : Nat)))) := HR2.out.2.setCell (Nat.le_refl _) _
            rw [← hkm] at HS HS2
            have hw : Wds (wr.setCell ⟨w.heap.size, m - 1, none⟩ (.int .u64 (leW (leB Z n) (m - 1) : Nat))) (some ⟨w.heap.size, 0, none⟩) m (leW (leB Z n)) := fun _ => ⟨_, rfl, fun i hi => by
              rw [HS.out.cell (by omega), rowK, if_pos (by omega)]⟩
            have HW := hid hw
            have HNm := hid (norm_any _ (some ⟨w.heap.size, 0, none⟩) m cc (leW (leB Z n)) hm1 hc1 hw)
            rw [← hkm]
            clear hrt hpart hw hkm
            go_wp2_with (go_at_call 60; refine HNm.out.mono ?_; clear HNm; rintro e w2 ⟨k, rfl, hcut, rfl⟩)
            go_ret
            exact ⟨k, cc, rfl, hcut, hc1, HW.out, HS2.out⟩
          · have h2' : (0 : Int) < r2 := by omega
            clear hrt
            have hcell : wr.cell? ⟨b, o + (r2 - 1), none⟩ = some (.int .u8 (Z (r2 - 1) : Nat)) := by
              rw [HR2.out.2.cell hbl]; exact HB.out.2 _ (by omega)
            go_wp2_with fail
            refine ⟨⟨t + 1, r2 - 1, by have := HT.out; omega, ?_, ?_, ?_, trivial⟩, ?_⟩
            · rw [show ((r2 - 1 : Nat) : Int) = (r2 : Int) - 1 by omega]
            · have hy : leB Z n (8 * kk + t) = Z (r2 - 1) := by
                have := HT.out
                have := HF.out.1
                unfold leB
                rw [if_pos (by omega)]
                congr 1
                omega
              rw [or_part _ _ t ht8 (HB.out.1 _ (by omega)) (part_lt (leB_le HB.out.1) kk t), part, hy]
            · rw [show ((8 * (t + 1) : Nat) : Int) = 8 * (t : Int) + 8 by omega]
            · simp only [intOf]; omega
end Go.Proofs.Qxb6002359a.B
