/- The walk of nav.coefficient. -/
import Derived.Test.Qxb6602243aCallees
namespace Go.Proofs.Qxb6602243a.Cal
open Go.ChangeShapes Go.WideShapes Go.ChangeAt Go.RowKit
open Pl

theorem val_step (p : ByteArray) (c : Int) (j : Nat) (h : j < p.size) : val c (p.data.toList.take (j + 1)) = val c (p.data.toList.take j) * 10 + ((p[j].toNat : Int) - 48) := by
  rw [take_snoc p j h, val_snoc]

theorem allD_at (p : ByteArray) (j : Nat) (h : j < p.size) (hd : allD p.data.toList = true) : 48 ≤ (p[j].toNat : Int) ∧ (p[j].toNat : Int) ≤ 57 := by
  apply (isDig_iff _).1
  rw [← Bool.not_eq_false]
  intro hn
  rw [allD_no p j h hn] at hd
  exact absurd hd (by simp)

theorem pow_le18 (n : Nat) (h : n ≤ 18) : (10 : Int) ^ n ≤ 1000000000000000000 := by
  have e : (10 : Int) ^ n = ((10 ^ n : Nat) : Int) := by simp
  have h' : 10 ^ n ≤ 10 ^ 18 := Nat.pow_le_pow_right (by omega) h
  rw [e]
  omega

theorem take_bd (p : ByteArray) (c : Int) (n j : Nat) (hc : 0 ≤ c) (hc' : c < 10 ^ n) (hd : allD p.data.toList = true) (hj : n + j ≤ 18) (hjp : j ≤ p.size) :
    0 ≤ val c (p.data.toList.take j) ∧ val c (p.data.toList.take j) < 1000000000000000000 := by
  have hd' : allD (p.data.toList.take j) = true := by
    have := allD_app (p.data.toList.take j) (p.data.toList.drop j)
    rw [List.take_append_drop, hd] at this
    exact (Bool.and_eq_true_iff.1 this.symm).1
  have h := val_bd (p.data.toList.take j) c n hd' hc hc'
  have hl : (p.data.toList.take j).length = j := by simp; omega
  rw [hl] at h
  have := pow_le18 (n + j) hj
  omega

theorem getD_at (p : ByteArray) (m : List UInt8) (k : Nat) (h : k < p.size) : (p.data.toList ++ m).getD k 0 = p[k] := by
  have hl : k < p.data.toList.length := by simpa using h
  rw [List.getD_eq_getElem?_getD, List.getElem?_append_left hl, List.getElem?_eq_getElem hl]; rfl

theorem getD_past (q p : ByteArray) (k : Nat) (h : k < p.size) : (q.data.toList ++ p.data.toList).getD (q.size + k) 0 = p[k] := by
  have hl : k < p.data.toList.length := by simpa using h
  have hq : q.data.toList.length = q.size := by simp
  rw [List.getD_eq_getElem?_getD, List.getElem?_append_right (by omega), hq, Nat.add_sub_cancel_left, List.getElem?_eq_getElem hl]; rfl

theorem allD_get (l : List UInt8) (k : Nat) (h : k < l.length) (hd : allD l = true) : 48 ≤ ((l.getD k 0).toNat : Int) ∧ ((l.getD k 0).toNat : Int) ≤ 57 := by
  apply (isDig_iff _).1
  rw [List.getD_eq_getElem?_getD, List.getElem?_eq_getElem h]
  exact List.all_eq_true.1 hd _ (List.getElem_mem h)

theorem allD_take (l : List UInt8) (k : Nat) (hd : allD l = true) : allD (l.take k) = true := by
  have := allD_app (l.take k) (l.drop k)
  rw [List.take_append_drop, hd] at this
  exact (Bool.and_eq_true_iff.1 this.symm).1

/-- The digits of both parts, and the value of the first k of them. -/
theorem digits_exist (wh fr : ByteArray) (hw : allD wh.data.toList = true) (hf : allD fr.data.toList = true) :
    ∃ G D : Nat → Int, G 0 = 0 ∧ G (wh.size + fr.size) = val 0 (wh.data.toList ++ fr.data.toList) ∧
      (∀ k, k < wh.size + fr.size → G (k + 1) = G k * 10 + (D k - 48) ∧ 48 ≤ D k ∧ D k ≤ 57) ∧
      (∀ k, k ≤ wh.size + fr.size → 0 ≤ G k ∧ G k < 10 ^ k) ∧
      (∀ k (h : k < wh.size), D k = (wh[k].toNat : Int)) ∧ (∀ k (h : k < fr.size), D (wh.size + k) = (fr[k].toNat : Int)) := by
  have hall : allD (wh.data.toList ++ fr.data.toList) = true := by rw [allD_app, hw, hf]; rfl
  have hlen : (wh.data.toList ++ fr.data.toList).length = wh.size + fr.size := by simp
  refine ⟨fun k => val 0 ((wh.data.toList ++ fr.data.toList).take k), fun k => (((wh.data.toList ++ fr.data.toList).getD k 0).toNat : Int), rfl, ?_, ?_, ?_, ?_, ?_⟩
  · show val 0 (List.take _ _) = _
    rw [List.take_of_length_le (by omega)]
  · intro k hk
    refine ⟨?_, allD_get _ _ (by omega) hall⟩
    show val 0 (List.take _ _) = val 0 (List.take _ _) * 10 + ((((wh.data.toList ++ fr.data.toList).getD k 0).toNat : Int) - 48)
    rw [List.take_succ_eq_append_getElem (by omega), val_snoc, List.getD_eq_getElem?_getD, List.getElem?_eq_getElem (by omega)]; rfl
  · intro k hk
    have := val_bd ((wh.data.toList ++ fr.data.toList).take k) 0 0 (allD_take _ _ hall) (by omega) (by omega)
    rw [List.length_take, hlen, Nat.min_eq_left hk, Nat.zero_add] at this
    exact this
  · intro k h
    show (((wh.data.toList ++ fr.data.toList).getD k 0).toNat : Int) = _
    rw [getD_at _ _ _ h]
  · intro k h
    show (((wh.data.toList ++ fr.data.toList).getD (wh.size + k) 0).toNat : Int) = _
    rw [getD_past _ _ _ h]

/-- the value behind the outer loop's k-th round -/
def upto (wh fr : ByteArray) : Nat → Int
  | 0 => 0
  | 1 => val 0 wh.data.toList
  | _ => val 0 (wh.data.toList ++ fr.data.toList)

set_option maxHeartbeats 1000000 in
theorem coef_any (s wh fr : ByteArray) (w : World) (hs0 : 0 < s.size) (hn : wh.size + fr.size ≤ 18)
    (hw : Hid (allD wh.data.toList = true)) (hf : Hid (allD fr.data.toList = true)) (bn : Bool) (hneg : ((s[0].toNat : Int) == 45) = bn) :
    Calls Try.prog 19 #[.string s, .string wh, .string fr] w fun e w' => e = .returned (.int .i64 (if bn then - val 0 (wh.data.toList ++ fr.data.toList) else val 0 (wh.data.toList ++ fr.data.toList))) ∧ w' = w.alloc (.cells #[.string wh, .string fr] 9) := by
  go_enter Try.func19, Try.ntmps19
  go_wp2
  go_loop [7, 15] (fun c i => ∃ k : Nat, k ≤ 2 ∧ i = .int .i64 k ∧ c = .int .i64 (upto wh fr k)) (fun _ i => 2 - (intOf i).toNat)
  case atStart => exact ⟨0, Nat.zero_le _, rfl, rfl⟩
  case round =>
    obtain ⟨k, hk, rfl, rfl⟩ := hrel
    have h1 : 0 ≤ val 0 wh.data.toList ∧ val 0 wh.data.toList < 10 ^ wh.size := by
      have := val_bd wh.data.toList 0 0 hw.out (by omega) (by omega)
      rw [Nat.zero_add] at this
      have hl : wh.data.toList.length = wh.size := by simp
      rw [hl] at this; exact this
    have H1 : Hid (0 ≤ val 0 wh.data.toList ∧ val 0 wh.data.toList < 10 ^ wh.size) := h1
    clear h1
    match k, hk with
    | 0, _ =>
      rw [show upto wh fr 0 = 0 from rfl]
      go_wp2
      go_loop [7, 21] (fun c i => ∃ j : Nat, j ≤ wh.size ∧ i = .int .i64 j ∧ c = .int .i64 (val (0) (wh.data.toList.take j))) (fun _ i => wh.size - (intOf i).toNat)
      case atStart => exact ⟨0, Nat.zero_le _, rfl, rfl⟩
      case round =>
        obtain ⟨j, hj, rfl, rfl⟩ := hrel
        have hb := take_bd wh (0) (0) j (by omega) (by omega) hw.out (by omega) hj
        by_cases hlt : j < wh.size
        · have hb' := take_bd wh (0) (0) (j + 1) (by omega) (by omega) hw.out (by omega) hlt
          have hx := allD_at wh j hlt hw.out
          have HS : Hid (val (0) (wh.data.toList.take (j + 1)) = val (0) (wh.data.toList.take j) * 10 + ((wh[j].toNat : Int) - 48)) := val_step wh _ j hlt
          have hb2 : val (0) (wh.data.toList.take j) < 100000000000000000 := by have := HS.out; omega
          clear hb'
          go_wp2
          go_round
          case rel => exact ⟨j + 1, by omega, by go_num, by rw [HS.out]⟩
          case measure => simp [intOf]; omega
        · have HE : Hid (val (0) (wh.data.toList.take j) = upto wh fr 1) := by
            have : j = wh.size := by omega
            rw [this, take_all]
            rfl
          go_wp2
          go_round
          case rel => exact ⟨1, by omega, by go_num, by rw [HE.out]⟩
          case measure => simp [intOf]
    | 1, _ =>
      rw [show upto wh fr 1 = val 0 wh.data.toList from rfl]
      go_wp2
      go_loop [7, 21] (fun c i => ∃ j : Nat, j ≤ fr.size ∧ i = .int .i64 j ∧ c = .int .i64 (val (val 0 wh.data.toList) (fr.data.toList.take j))) (fun _ i => fr.size - (intOf i).toNat)
      case atStart => exact ⟨0, Nat.zero_le _, rfl, rfl⟩
      case round =>
        obtain ⟨j, hj, rfl, rfl⟩ := hrel
        have hb := take_bd fr (val 0 wh.data.toList) (wh.size) j H1.out.1 H1.out.2 hf.out (by omega) hj
        by_cases hlt : j < fr.size
        · have hb' := take_bd fr (val 0 wh.data.toList) (wh.size) (j + 1) H1.out.1 H1.out.2 hf.out (by omega) hlt
          have hx := allD_at fr j hlt hf.out
          have HS : Hid (val (val 0 wh.data.toList) (fr.data.toList.take (j + 1)) = val (val 0 wh.data.toList) (fr.data.toList.take j) * 10 + ((fr[j].toNat : Int) - 48)) := val_step fr _ j hlt
          have hb2 : val (val 0 wh.data.toList) (fr.data.toList.take j) < 100000000000000000 := by have := HS.out; omega
          clear hb'
          go_wp2
          go_round
          case rel => exact ⟨j + 1, by omega, by go_num, by rw [HS.out]⟩
          case measure => simp [intOf]; omega
        · have HE : Hid (val (val 0 wh.data.toList) (fr.data.toList.take j) = upto wh fr 2) := by
            have : j = fr.size := by omega
            rw [this, take_all]
            exact (val_app _ _ _).symm
          go_wp2
          go_round
          case rel => exact ⟨2, by omega, by go_num, by rw [HE.out]⟩
          case measure => simp [intOf]
    | 2, _ =>
      rw [show upto wh fr 2 = val 0 (wh.data.toList ++ fr.data.toList) from rfl]
      have h2 : 0 ≤ val 0 (wh.data.toList ++ fr.data.toList) ∧ val 0 (wh.data.toList ++ fr.data.toList) < 1000000000000000000 := by
        have := take_bd fr (val 0 wh.data.toList) wh.size fr.size H1.out.1 H1.out.2 hf.out hn (Nat.le_refl _)
        rw [take_all, ← val_app] at this; exact this
      cases bn
      · go_wp2
        go_ret
        exact ⟨rfl, rfl⟩
      · go_wp2
        go_ret
        exact ⟨rfl, rfl⟩

theorem zzCoef_any (s wh fr : ByteArray) (w : World) (hs0 : 0 < s.size) (hn : wh.size + fr.size ≤ 18)
    (hw : Hid (allD wh.data.toList = true)) (hf : Hid (allD fr.data.toList = true)) (bn : Bool) (hneg : ((s[0].toNat : Int) == 45) = bn) :
    Calls Try.prog 10 #[.string s, .string wh, .string fr] w fun e w' => e = .returned (.int .i64 (if bn then - val 0 (wh.data.toList ++ fr.data.toList) else val 0 (wh.data.toList ++ fr.data.toList))) ∧ w' = w.alloc (.cells #[.string wh, .string fr] 9) := by
  have HN : Hid (((s[0].toNat : Int) == 45) = bn) := hneg
  clear hneg
  go_enter Try.func10, Try.ntmps10
  go_wp2_with (go_at_call 19; refine (coef_any s wh fr _ hs0 hn hw hf bn HN.out).mono ?_; rintro e w' ⟨rfl, rfl⟩)
  all_goals go_ret
  all_goals exact ⟨rfl, rfl⟩

theorem bytes13_any (s wh fr : ByteArray) (w : World) (hs : s.size + wh.size + fr.size ≤ 1048576) :
    Calls Try.prog 13 #[.string s, .string wh, .string fr] w fun e w' => e = .returned (.bool true) ∧ w' = w := by
  go_enter Try.func13, Try.ntmps13
  go_wp2
  go_ret
  exact ⟨rfl, rfl⟩

theorem bytes13_no (s wh fr : ByteArray) (w : World) (hs : ¬ s.size + wh.size + fr.size ≤ 1048576) (h1 : s.size ≤ maxLen) (h2 : wh.size ≤ maxLen) (h3 : fr.size ≤ maxLen) :
    Calls Try.prog 13 #[.string s, .string wh, .string fr] w fun e w' => e = .returned (.bool false) ∧ w' = w := by
  unfold maxLen at h1 h2 h3
  have hs' : 1048576 < s.size + wh.size + fr.size := by omega
  clear hs
  go_enter Try.func13, Try.ntmps13
  go_wp2
  all_goals go_ret
  all_goals exact ⟨rfl, rfl⟩

theorem bytes8_any (s wh fr : ByteArray) (w : World) (hs : s.size + wh.size + fr.size ≤ 1048576) :
    Calls Try.prog 8 #[.string s, .string wh, .string fr] w fun e w' => e = .returned (.bool true) ∧ w' = w := by
  go_enter Try.func8, Try.ntmps8
  go_wp2
  go_ret
  exact ⟨rfl, rfl⟩

theorem bytes8_no (s wh fr : ByteArray) (w : World) (hs : ¬ s.size + wh.size + fr.size ≤ 1048576) (h1 : s.size ≤ maxLen) (h2 : wh.size ≤ maxLen) (h3 : fr.size ≤ maxLen) :
    Calls Try.prog 8 #[.string s, .string wh, .string fr] w fun e w' => e = .returned (.bool false) ∧ w' = w := by
  unfold maxLen at h1 h2 h3
  have hs' : 1048576 < s.size + wh.size + fr.size := by omega
  clear hs
  go_enter Try.func8, Try.ntmps8
  go_wp2
  all_goals go_ret
  all_goals exact ⟨rfl, rfl⟩

end Go.Proofs.Qxb6602243a.Cal
