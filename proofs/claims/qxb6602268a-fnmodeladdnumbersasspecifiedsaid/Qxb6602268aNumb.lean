/- zzGroupNumbered, zzNumberingHolds. -/
import Derived.Test.Qxb6602268aPick2
namespace Go.Proofs.Qxb6602268a.M
open Go.ChangeShapes Go.WideShapes Go.ChangeAt Go.RowKit Go.Maps
set_option linter.unusedVariables false

theorem grown_set {w w' : World} {b i : Nat} {v : Value} (h : w.grownBy w' (some b)) : w.grownBy (w'.setCell ⟨b, i, none⟩ v) (some b) :=
  ⟨h.os, h.tape, h.output, by rw [World.size_setCell]; exact h.size, fun j hj hne => by rw [Go.Deep.blk_setCell_other _ _ _ _ (fun e => hne (by rw [e]))]; exact h.block j hj hne⟩

/-- places hit behind k rounds -/
def hitB (p : Nat → Nat) : Nat → Nat → Bool
  | 0, _ => false
  | k + 1, j => hitB p k j || p k == j
theorem hitB_not {p : Nat → Nat} {j : Nat} : ∀ {k : Nat}, (∀ i, i < k → p i ≠ j) → hitB p k j = false
  | 0, _ => rfl
  | k + 1, h => by
    rw [hitB, hitB_not (fun i hi => h i (by omega))]
    simpa using h k (by omega)

/-- The group's names are numbered base + p i. -/
structure Group (F : ByteArray → Option Value) (G : List ByteArray) (base lo hi : Nat) (p : Nat → Nat) : Prop where
  at' : ∀ i, i < G.length → F (nth G i) = some (.int .i32 (base + p i : Nat))
  lo : ∀ i, i < G.length → lo ≤ p i
  hi : ∀ i, i < G.length → p i < hi
  inj : ∀ i j, i < j → j < G.length → p i ≠ p j

set_option maxRecDepth 100000 in
set_option maxHeartbeats 800000 in
theorem groupNumbered_any (w : World) (a : Option Addr) (c bb s hb n base lo hi : Nat) (bI lI hI : Int) (eb : bI = base) (el : lI = lo) (eh : hI = hi) (G : List ByteArray) (F : ByteArray → Option Value) (p : Nat → Nat) (H : Nat → Bool) (hG : G.length ≤ 1048576) (hn : n ≤ 2097152) (hb1 : base ≤ 2097152) (hhi : hi ≤ n)
    (hf : Fits G) (hs : Strs w a G) (hT : Tab 9 slit w bb F s) (hne : bb ≠ hb) (hab : ∀ b o, a = some ⟨b, o, none⟩ → 0 < G.length → b ≠ hb) (hr : w.rowIs hb 4 n (fun j => .bool (H j))) (hg : Group F G base lo hi p) (hH : ∀ i, i < G.length → H (p i) = false) :
    Calls Try.prog 42 #[.map (some bb), .slice a G.length c, .int .i64 bI, .int .i64 lI, .int .i64 hI, .slice (some ⟨hb, 0, none⟩) n n] w (fun e w' => e = .returned (.bool true) ∧ w'.rowIs hb 4 n (fun j => .bool (H j || hitB p G.length j)) ∧ w.grownBy w' (some hb)) := by
  subst eb el eh
  have HS : Hid (Strs w a G) := hs
  have HF : Hid (Fits G) := hf
  have HT : Hid (Tab 9 slit w bb F s) := hT
  have HG : Hid (Group F G base lo hi p) := hg
  have HH : Hid (∀ i, i < G.length → H (p i) = false) := hH
  clear hs hf hT hg hH
  go_enter Try.func42, Try.ntmps42
  go_wp2_with fail
  go_loopw [13] (fun i wr => ∃ k : Nat, k ≤ G.length ∧ i = .int .i64 k ∧ wr.rowIs hb 4 n (fun j => .bool (H j || hitB p k j)) ∧ w.grownBy wr (some hb)) (fun i _ => (G.length - (intOf i).toNat))
  case atStart => exact ⟨0, Nat.zero_le _, rfl, hr.congr (fun j _ => by simp [hitB]), World.grownBy.refl _ _⟩
  case round =>
    obtain ⟨k, hk, rfl, hR, hgr⟩ := hrel
    clear hr
    by_cases hlt : k < G.length
    · obtain ⟨b, o, rfl, hc⟩ := HS.out (by omega)
      have c1 : wr.cell? ⟨b, o + k, none⟩ = some (.string (nth G k)) := hgr.cell (hc k hlt) (by have := hab b o rfl (by omega); simp; omega)
      have hkn : (k : Int) < G.length := by omega
      have hT := HT.out.grown hgr (by simp; omega)
      have hl2 := hT.look_ok strKind Try.underlying44 (zero21' _) (HF.out k)
      rw [HG.out.at' k hlt] at hl2
      simp only [Option.getD_some, Option.isSome_some] at hl2
      have g1 := HG.out.lo k hlt
      have g2 := HG.out.hi k hlt
      obtain ⟨q, hq⟩ : ∃ q, p k = q := ⟨_, rfl⟩
      rw [hq] at hl2 g1 g2
      have hHq : (H q || hitB p k q) = false := by
        rw [← hq, HH.out k hlt, hitB_not (fun i hi => HG.out.inj i k hi hlt)]; rfl
      have c2 : wr.cell? ⟨hb, q, none⟩ = some (.bool false) := by rw [hR.cell (by omega), hHq]
      have c3 := hR.frozen q
      have HR : Hid (wr.rowIs hb 4 n (fun j => .bool (H j || hitB p k j))) := hR
      have HQ : Hid (p k = q) := hq
      clear hc hR hq hHq
      have e1 : ((base + q : Nat) : Int) - (base : Int) = q := by omega
      have e2 : (lo : Int) ≤ q := by omega
      have e3 : (q : Int) < hi := by omega
      have e4 : (q : Int) < n := by omega
      go_wp2_with fail
      go_roundw
      case rel =>
        refine ⟨k + 1, by omega, by go_num, (HR.out.set q (.bool true)).congr (fun j _ => ?_), grown_set hgr⟩
        rw [hitB, HQ.out]
        by_cases e : j = q
        · subst e; simp
        · have : (q == j) = false := by simp; omega
          simp [e, this]
      case measure => simp [intOf]; omega
    · obtain rfl : k = G.length := by omega
      go_wp2_with fail
      go_ret
      exact ⟨rfl, hR, hgr⟩

set_option maxRecDepth 100000 in
set_option maxHeartbeats 1600000 in
theorem numberingHolds_any (w : World) (aO aA aB : Option Addr) (cO cA cB ba bb sa sb first : Nat) (O A B : List ByteArray) (FA FB : ByteArray → Option Value) (z : Nat → Int) (pA pB : Nat → Nat) (hO : O.length ≤ 1048576) (hA : A.length ≤ 1048576) (hB : B.length ≤ 1048576) (hsb : sb ≤ 1048576) (hfi : first ≤ 1)
    (fO : Fits O) (fA : Fits A) (fB : Fits B) (SO : Strs w aO O) (SA : Strs w aA A) (SB : Strs w aB B) (TA : Tab 9 slit w ba FA sa) (TB : Tab 9 slit w bb FB sb) (hsz : sa = sb + A.length + B.length)
    (hold : ∀ i, i < O.length → FA (nth O i) = some (.int .i32 (z i)) ∧ FB (nth O i) = some (.int .i32 (z i))) (gA : Group FA A (first + sb) 0 A.length pA) (gB : Group FA B (first + sb) A.length (A.length + B.length) pB) :
    Calls Try.prog 27 #[.map (some ba), .map (some bb), .slice aO O.length cO, .int .i64 first, .slice aA A.length cA, .slice aB B.length cB] w (fun e w' => e = .returned (.bool true) ∧ Below w.heap.size w w') := by
  subst hsz
  have l1 : ∀ ty, _ := fun ty => TA.len Try.underlying44 ty
  have l2 : ∀ ty, _ := fun ty => TB.len Try.underlying44 ty
  have hmk := run_make_row' (P := Try.prog) 37 4 (.bool false) 1 Try.underlying37 info4 rfl .i64 .i64 (A.length + B.length) (by omega) (by omega)
  rw [Int.natCast_add] at hmk
  have HSO : Hid (Strs w aO O) := SO
  have HFO : Hid (Fits O) := fO
  have HO : Hid (∀ i, i < O.length → FA (nth O i) = some (.int .i32 (z i)) ∧ FB (nth O i) = some (.int .i32 (z i))) := hold
  have HA : Hid (Tab 9 slit w ba FA (sb + A.length + B.length)) := TA
  have HB : Hid (Tab 9 slit w bb FB sb) := TB
  have HGA : Hid (Group FA A (first + sb) 0 A.length pA) := gA
  have HGB : Hid (Group FA B (first + sb) A.length (A.length + B.length) pB) := gB
  have HSA : Hid (Strs w aA A ∧ Strs w aB B) := ⟨SA, SB⟩
  clear SO fO hold TA TB gA gB SA SB
  go_enter Try.func27, Try.ntmps27
  go_wp2_with fail
  go_loopw [13] (fun i wr => ∃ k : Nat, k ≤ O.length ∧ i = .int .i64 k ∧ wr = w) (fun i _ => (O.length - (intOf i).toNat))
  case atStart => exact ⟨0, Nat.zero_le _, rfl, rfl⟩
  case round =>
    obtain ⟨k, hk, rfl, rfl⟩ := hrel
    by_cases hlt : k < O.length
    · obtain ⟨b, o, rfl, hc⟩ := HSO.out (by omega)
      have c1 := hc k hlt
      have hkn : (k : Int) < O.length := by omega
      have hl1 := HA.out.look_ok strKind Try.underlying44 (zero21' _) (HFO.out k)
      have hl2 := HB.out.look strKind Try.underlying44 (zero21' _) (HFO.out k)
      rw [(HO.out k hlt).1] at hl1
      rw [(HO.out k hlt).2] at hl2
      simp only [Option.getD_some, Option.isSome_some] at hl1 hl2
      clear hc hmk
      go_wp2_with fail
      go_roundw
      case rel => exact ⟨k + 1, by omega, by go_num, by simp⟩
      case measure => simp [intOf]; omega
    · obtain rfl : k = O.length := by omega
      obtain ⟨w1, hw1⟩ : ∃ w1, w1 = wr.alloc (.cells (madeCells #[.bool false] (A.length + B.length)) 4) := ⟨_, rfl⟩
      have hmk2 := hmk wr
      rw [← hw1] at hmk2
      have hr1 : w1.rowIs wr.heap.size 4 (A.length + B.length) (fun _ => .bool false) := by rw [hw1]; exact World.rowIs_made _ _ _ _
      have hbel : Below wr.heap.size wr w1 := by rw [hw1]; exact (Below.refl _ _).alloc (Nat.le_refl _) _
      have HR : Hid (w1.rowIs wr.heap.size 4 (A.length + B.length) (fun _ => .bool false)) := hr1
      have HW : Hid (Below wr.heap.size wr w1) := hbel
      clear hmk hw1 hr1 hbel
      have hne1 : ba ≠ wr.heap.size := Nat.ne_of_lt HA.out.lt
      have hlA : ∀ b o, aA = some ⟨b, o, none⟩ → 0 < A.length → b ≠ wr.heap.size := fun b o e h => by
        obtain ⟨b', o', e', hc⟩ := HSA.out.1 h
        rw [e] at e'; cases e'
        exact Nat.ne_of_lt (lt_of_cell (hc 0 h))
      have hlB : ∀ b o, aB = some ⟨b, o, none⟩ → 0 < B.length → b ≠ wr.heap.size := fun b o e h => by
        obtain ⟨b', o', e', hc⟩ := HSA.out.2 h
        rw [e] at e'; cases e'
        exact Nat.ne_of_lt (lt_of_cell (hc 0 h))
      have l3 : ∀ ty, _ := fun ty => (HB.out.below HW.out).len Try.underlying44 ty
      have CA := groupNumbered_any w1 aA cA ba _ wr.heap.size (A.length + B.length) (first + sb) 0 A.length (first + sb) 0 A.length (by omega) rfl rfl A FA pA (fun _ => false) hA (by omega) (by omega) (by omega) fA (HSA.out.1.below HW.out) (HA.out.below HW.out) hne1 hlA HR.out HGA.out (fun _ _ => rfl)
      have HCA : Hid (Calls Try.prog 42 #[.map (some ba), .slice aA A.length cA, .int .i64 ((first : Int) + sb), .int .i64 0, .int .i64 A.length, .slice (some ⟨wr.heap.size, 0, none⟩) (A.length + B.length) (A.length + B.length)] w1 (fun e w' => e = .returned (.bool true) ∧ w'.rowIs wr.heap.size 4 (A.length + B.length) (fun j => .bool (false || hitB pA A.length j)) ∧ w1.grownBy w' (some wr.heap.size))) := CA
      clear CA
      go_wp2_with (go_at_call 42; refine HCA.out.mono ?_; clear HCA; rintro e w2 ⟨rfl, hr2, hg2⟩)
      have hbel2 : Below wr.heap.size wr w2 := HW.out.grown hg2 HW.out.size (fun k h => by cases h; exact Nat.le_refl _)
      refine (groupNumbered_any w2 aB cB ba _ wr.heap.size (A.length + B.length) (first + sb) A.length (A.length + B.length) (first + sb) A.length (A.length + B.length) (by omega) rfl (by omega) B FA pB _ hB (by omega) (by omega) (by omega) fB (HSA.out.2.below hbel2) (HA.out.below hbel2) hne1 hlB hr2 HGB.out (fun i hi => ?_)).mono ?_
      · rw [Bool.false_or]
        exact hitB_not (fun j hj => by have := HGA.out.hi j hj; have := HGB.out.lo i hi; omega)
      · rintro e w3 ⟨rfl, hr3, hg3⟩
        have hbel3 : Below wr.heap.size wr w3 := hbel2.grown hg3 hbel2.size (fun k h => by cases h; exact Nat.le_refl _)
        go_wp2_with fail
        go_ret
        exact ⟨rfl, hbel3⟩

end Go.Proofs.Qxb6602268a.M
