/- The walk of FnCoefficientRendersBackToItsDigits. -/
import Derived.Test.Qxb6602243aCoef
import Derived.Deep.OwnRows
namespace Go.Proofs.Qxb6602243a.Cal
open Go.ChangeShapes Go.WideShapes Go.ChangeAt Go.RowKit
open Pl

theorem info5 : (Try.prog.info? 5).map (fun i => (i.zero, i.size, i.bytes)) = some (some (.int .u8 0), 1, 1) := by kernel_rfl

/-- the ways that end at a guard -/
theorem render_guard (s wh fr : ByteArray) (w : World) (h1 : s.size ≤ maxLen) (h2 : wh.size ≤ maxLen) (h3 : fr.size ≤ maxLen)
    (hg : ¬ s.size + wh.size + fr.size ≤ 1048576 ∨ s.size = 0 ∨ 18 < wh.size + fr.size ∨ 262144 < s.size) :
    Calls Try.prog 4 #[.string s, .string wh, .string fr] w fun e w' => e = .returned (.bool true) ∧ w' = w := by
  by_cases hb : s.size + wh.size + fr.size ≤ 1048576
  · have hg' : s.size = 0 ∨ 18 < wh.size + fr.size ∨ 262144 < s.size := by omega
    clear hg
    unfold maxLen at h1 h2 h3
    rcases hg' with h | h | h
    · have h' : ((s.size : Int) == 0) = true := by rw [beq_iff_eq]; omega
      go_enter Try.func4, Try.ntmps4
      go_wp2_with (go_at_call 13; refine (bytes13_any s wh fr _ hb).mono ?_; rintro e w' ⟨rfl, rfl⟩)
      all_goals go_ret
      all_goals exact ⟨rfl, rfl⟩
    · go_enter Try.func4, Try.ntmps4
      go_wp2_with (go_at_call 13; refine (bytes13_any s wh fr _ hb).mono ?_; rintro e w' ⟨rfl, rfl⟩)
      all_goals go_ret
      all_goals exact ⟨rfl, rfl⟩
    · go_enter Try.func4, Try.ntmps4
      go_wp2_with (go_at_call 13; refine (bytes13_any s wh fr _ hb).mono ?_; rintro e w' ⟨rfl, rfl⟩)
      all_goals go_ret
      all_goals exact ⟨rfl, rfl⟩
  · clear hg
    go_enter Try.func4, Try.ntmps4
    go_wp2_with (go_at_call 13; refine (bytes13_no s wh fr _ hb h1 h2 h3).mono ?_; rintro e w' ⟨rfl, rfl⟩)
    go_ret
    exact ⟨rfl, rfl⟩

/-- not all digits -/
theorem render_nodig (s wh fr : ByteArray) (w : World) (hb : s.size ≤ 262144) (hs : 0 < s.size) (hn : wh.size + fr.size ≤ 18)
    (hd : allD wh.data.toList = false ∨ allD fr.data.toList = false) :
    Calls Try.prog 4 #[.string s, .string wh, .string fr] w fun e w' => e = .returned (.bool true) ∧ w' = w := by
  have m1 : wh.size ≤ maxLen := by unfold maxLen; omega
  have m2 : fr.size ≤ maxLen := by unfold maxLen; omega
  cases hw : allD wh.data.toList
  · clear hd
    go_enter Try.func4, Try.ntmps4
    go_wp2_with (first | (go_at_call 13; refine (bytes13_any s wh fr _ (by omega)).mono ?_; rintro e w' ⟨rfl, rfl⟩) | (go_at_call 9; refine (only_any wh _ m1).mono ?_; rintro e w' ⟨rfl, rfl⟩))
    go_ret
    exact ⟨rfl, rfl⟩
  · have hf : allD fr.data.toList = false := by simpa [hw] using hd
    clear hd
    go_enter Try.func4, Try.ntmps4
    go_wp2_with (go_at_call 13; refine (bytes13_any s wh fr _ (by omega)).mono ?_; rintro e w' ⟨rfl, rfl⟩)
    refine (only_any wh _ m1).mono ?_
    rintro e w' ⟨rfl, rfl⟩
    go_wp2_with fail
    refine (only_any fr _ m2).mono ?_
    rintro e w' ⟨rfl, rfl⟩
    go_wp2_with fail
    go_ret
    exact ⟨rfl, rfl⟩

/-- a round of the first loop turns the row so -/
theorem row_step {wr : World} {g n m : Nat} {f : Nat → Value} {D : Nat → Int} {x : Int} (hr : wr.rowIs g 5 n f) (hm : ∀ j, m + 1 ≤ j → j < n → f j = .int .u8 (D j)) (hx : x = D m) :
    ∃ f' : Nat → Value, (wr.setCell ⟨g, m, none⟩ (.int .u8 x)).rowIs g 5 n f' ∧ ∀ j, m ≤ j → j < n → f' j = .int .u8 (D j) := by
  refine ⟨_, hr.set m _, fun j h1 h2 => ?_⟩
  by_cases e : j = m
  · subst e; simp [hx]
  · rw [if_neg e]; exact hm j (by omega) h2

theorem mod_digit (a d : Int) (h0 : 48 ≤ d) (h1 : d ≤ 57) : 48 + (a * 10 + (d - 48)) % 10 = d := by omega
theorem div_digit (a d : Int) (h0 : 48 ≤ d) (h1 : d ≤ 57) : (a * 10 + (d - 48)) / 10 = a := by omega

set_option maxHeartbeats 2000000 in
theorem render_main (s wh fr : ByteArray) (w : World) (hb : s.size ≤ 262144) (hs : 0 < s.size) (hn : wh.size + fr.size ≤ 18)
    (hw : allD wh.data.toList = true) (hf : allD fr.data.toList = true) (bn : Bool) (hneg : ((s[0].toNat : Int) == 45) = bn) :
    Calls Try.prog 4 #[.string s, .string wh, .string fr] w fun e w' => e = .returned (.bool true) ∧ Below w.heap.size w w' := by
  have m1 : wh.size ≤ maxLen := by unfold maxLen; omega
  have m2 : fr.size ≤ maxLen := by unfold maxLen; omega
  obtain ⟨G, D, hG0, hGn, hGs, hGb, hDw, hDf⟩ := digits_exist wh fr hw hf
  have HG0 : Hid (G 0 = 0) := hG0
  have HGn : Hid (G (wh.size + fr.size) = val 0 (wh.data.toList ++ fr.data.toList)) := hGn
  have HGs : Hid (∀ k, k < wh.size + fr.size → G (k + 1) = G k * 10 + (D k - 48) ∧ 48 ≤ D k ∧ D k ≤ 57) := hGs
  have HGb : Hid (∀ k, k ≤ wh.size + fr.size → 0 ≤ G k ∧ G k < 10 ^ k) := hGb
  have HDw : Hid (∀ k (h : k < wh.size), D k = (wh[k].toNat : Int)) := hDw
  have HDf : Hid (∀ k (h : k < fr.size), D (wh.size + k) = (fr[k].toNat : Int)) := hDf
  clear hG0 hGn hGs hGb hDw hDf
  go_enter Try.func4, Try.ntmps4
  go_wp2_with (go_at_call 13; refine (bytes13_any s wh fr _ (by omega)).mono ?_; rintro e w ⟨rfl, rfl⟩)
  refine (only_any wh _ m1).mono ?_
  rintro e w ⟨rfl, rfl⟩
  go_wp2_with fail
  refine (only_any fr _ m2).mono ?_
  rintro e w ⟨rfl, rfl⟩
  go_wp2_with fail
  refine (zzCoef_any s wh fr _ hs hn hw hf bn hneg).mono ?_
  rintro e w' ⟨rfl, rfl⟩
  have hv0 : 0 ≤ G (wh.size + fr.size) ∧ G (wh.size + fr.size) < 1000000000000000000 := by
    have h := HGb.out _ (Nat.le_refl _)
    have := pow_le18 _ hn
    omega
  rw [← HGn.out]
  have hmk := run_make_row' (P := Try.prog) 27 5 (.int .u8 0) 1 Try.underlying27 info5 rfl .i64 .i64 (wh.size + fr.size) (by omega) (by omega)
  have ec : ((wh.size + fr.size : Nat) : Int) = (wh.size : Int) + (fr.size : Int) := by omega
  rw [ec] at hmk
  clear ec HGn hw hf
  have HR := World.rowIs_made (w.alloc (.cells #[.string wh, .string fr] 9)) (.int .u8 0) (wh.size + fr.size) 5
  rw [show (w.alloc (.cells #[.string wh, .string fr] 9)).heap.size = w.heap.size + 1 from by simp] at HR
  have HB : Below w.heap.size w ((w.alloc (.cells #[.string wh, .string fr] 9)).alloc (.cells (madeCells #[.int .u8 0] (wh.size + fr.size)) 5)) := ((Below.refl _ _).alloc (Nat.le_refl _) _).alloc (by simp) _
  cases bn
  all_goals
    go_wp2
    clear hmk
    go_loopw [7, 10] (fun c i wr => ∃ (k : Nat) (f : Nat → Value), k ≤ wh.size + fr.size ∧ i = .int .i64 ((k : Int) - 1) ∧ c = .int .i64 (G k) ∧ wr.rowIs (w.heap.size + 1) 5 (wh.size + fr.size) f ∧
      Hid (∀ j, k ≤ j → j < wh.size + fr.size → f j = .int .u8 (D j)) ∧ Below w.heap.size w wr) (fun _ i _ => (intOf i + 1).toNat)
    case atStart => exact ⟨wh.size + fr.size, _, Nat.le_refl _, by go_num, rfl, HR, fun j h1 h2 => by omega, HB⟩
    case round =>
      clear HR HB
      obtain ⟨k, f, hk, rfl, rfl, hrow, hfs, hbel⟩ := hrel
      match k, hk with
      | m + 1, hk =>
        obtain ⟨es, e1, e2⟩ := HGs.out m hk
        have hrow' := hrow.cell (i := m) hk
        have hfz := hrow.frozen m
        have hgm : 0 ≤ G (m + 1) ∧ G (m + 1) < 1000000000000000000 := by
          have g2 := HGb.out (m + 1) hk
          have hp := pow_le18 (m + 1) (by omega)
          omega
        have ES : Hid (G (m + 1) = G m * 10 + (D m - 48)) := es
        clear es
        go_wp2
        obtain ⟨f', hr', hf'⟩ := row_step (x := 48 + G (m + 1) % 10) hrow hfs.out (by rw [ES.out]; exact mod_digit _ _ e1 e2)
        go_roundw
        case rel => exact ⟨m, f', by omega, by go_num, congrArg _ (by rw [ES.out]; exact div_digit _ _ e1 e2), hr', hf', hbel.setCell (by simp) _⟩
        case measure => simp [intOf]
      | 0, _ =>
        have hg0 : G 0 = 0 := HG0.out
        go_wp2
        clear hg0
        go_loop [11] (fun i => ∃ k : Nat, k ≤ wh.size + fr.size ∧ i = .int .i64 k) (fun i => wh.size + fr.size - (intOf i).toNat)
        case atStart => exact ⟨0, Nat.zero_le _, rfl⟩
        case round =>
          obtain ⟨k, hk, rfl⟩ := hrel
          by_cases hlt : k < wh.size
          · have hc : wr.cell? ⟨w.heap.size + 1, k, none⟩ = some (.int .u8 (wh[k].toNat : Int)) := by
              rw [hrow.cell (i := k) (by omega), hfs.out k (by omega) (by omega), HDw.out k hlt]
            go_wp2
            go_round
            case rel => exact ⟨k + 1, by omega, by go_num⟩
            case measure => simp [intOf]; omega
          · by_cases hlt2 : k < wh.size + fr.size
            · have hi1 : wh.size ≤ k := by omega
              have hi2 : (k : Int) - (wh.size : Int) < (fr.size : Int) := by omega
              have hq : ((k : Int) - (wh.size : Int)).toNat < fr.size := by omega
              have hc : wr.cell? ⟨w.heap.size + 1, k, none⟩ = some (.int .u8 ((fr[((k : Int) - (wh.size : Int)).toNat]'hq).toNat : Int)) := by
                have := HDf.out ((k : Int) - (wh.size : Int)).toNat hq
                rw [← this, show wh.size + ((k : Int) - (wh.size : Int)).toNat = k from by omega, hrow.cell (i := k) (by omega), hfs.out _ (by omega) (by omega)]
              go_wp2
              go_round
              case rel => exact ⟨k + 1, by omega, by go_num⟩
              case measure => simp [intOf]; omega
            · go_wp2
              go_ret
              exact ⟨rfl, hbel⟩

theorem render_walk (s wh fr : ByteArray) (h1 : s.size ≤ maxLen) (h2 : wh.size ≤ maxLen) (h3 : fr.size ≤ maxLen) (w : World) :
    Calls Try.prog 4 #[.string s, .string wh, .string fr] w fun e w' => e = .returned (.bool true) ∧ Below w.heap.size w w' := by
  by_cases hg : ¬ s.size + wh.size + fr.size ≤ 1048576 ∨ s.size = 0 ∨ 18 < wh.size + fr.size ∨ 262144 < s.size
  · exact (render_guard s wh fr w h1 h2 h3 hg).mono fun _ _ ⟨he, hw⟩ => ⟨he, hw ▸ Below.refl _ _⟩
  · cases hw : allD wh.data.toList
    · exact (render_nodig s wh fr w (by omega) (by omega) (by omega) (.inl hw)).mono fun _ _ ⟨he, hw⟩ => ⟨he, hw ▸ Below.refl _ _⟩
    · cases hf : allD fr.data.toList
      · exact (render_nodig s wh fr w (by omega) (by omega) (by omega) (.inr hf)).mono fun _ _ ⟨he, hw⟩ => ⟨he, hw ▸ Below.refl _ _⟩
      · exact render_main s wh fr w (by omega) (by omega) (by omega) hw hf _ rfl

end Go.Proofs.Qxb6602243a.Cal
