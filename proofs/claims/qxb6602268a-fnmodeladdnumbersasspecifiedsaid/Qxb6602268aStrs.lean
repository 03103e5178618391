/- Slices of strings and of pointers to strings in memory; tables built by a loop. -/
import Derived.Test.Qxb6602268aTab
import Derived.Test.Qxb6602268aLawKit
namespace Go.Proofs.Qxb6602268a.M
open Go.ChangeShapes Go.WideShapes Go.ChangeAt Go.RowKit Go.Maps
set_option linter.unusedVariables false

/-- The slice at 'a' of n elements reads V 0 .. V (n - 1). -/
def Vals (w : World) (a : Option Addr) (n : Nat) (V : Nat → Value) : Prop :=
  0 < n → ∃ b o, a = some ⟨b, o, none⟩ ∧ ∀ i, i < n → w.cell? ⟨b, o + i, none⟩ = some (V i)

theorem Vals.below {w w' : World} {a : Option Addr} {n : Nat} {V : Nat → Value} (h : Vals w a n V) (hb : Below w.heap.size w w') : Vals w' a n V := by
  intro h0
  obtain ⟨b, o, ha, hc⟩ := h h0
  exact ⟨b, o, ha, fun i hi => (hb.cell (lt_of_cell (hc i hi))).trans (hc i hi)⟩
theorem Vals.grown {w w' : World} {a : Option Addr} {n : Nat} {V : Nat → Value} (h : Vals w a n V) (hb : w.grownBy w' none) : Vals w' a n V := by
  intro h0
  obtain ⟨b, o, ha, hc⟩ := h h0
  exact ⟨b, o, ha, fun i hi => by
    have := hc i hi
    rw [← this]
    exact World.cell?_of_block (hb.block b (lt_of_cell this) (by simp))⟩
theorem Vals.congr {w : World} {a : Option Addr} {n : Nat} {V V' : Nat → Value} (h : Vals w a n V) (e : ∀ i, i < n → V i = V' i) : Vals w a n V' := by
  intro h0
  obtain ⟨b, o, ha, hc⟩ := h h0
  exact ⟨b, o, ha, fun i hi => by rw [hc i hi, e i hi]⟩

/-- element i of a list of strings -/
def nth (L : List ByteArray) (i : Nat) : ByteArray := L.getD i ByteArray.empty
/-- The slice at 'a' reads L. -/
def Strs (w : World) (a : Option Addr) (L : List ByteArray) : Prop := Vals w a L.length (fun i => .string (nth L i))

/-- every string is of a length that a key may have -/
def Fits (L : List ByteArray) : Prop := ∀ i, (nth L i).size ≤ maxLen

theorem nth_mem {L : List ByteArray} {i : Nat} (h : i < L.length) : nth L i ∈ L := by
  unfold nth; simp [h]
theorem mem_nth {L : List ByteArray} {x : ByteArray} (h : x ∈ L) : ∃ i, i < L.length ∧ nth L i = x := by
  obtain ⟨i, hi, e⟩ := List.mem_iff_getElem.1 h
  exact ⟨i, hi, by unfold nth; simp [hi]; exact e⟩
theorem Fits.of_mem {L : List ByteArray} (h : ∀ x ∈ L, x.size ≤ maxLen) : Fits L := fun i => by
  by_cases hi : i < L.length
  · exact h _ (nth_mem hi)
  · have : L[i]? = none := List.getElem?_eq_none (by omega)
    unfold nth; simp [this]
theorem Fits.mem {L : List ByteArray} (h : Fits L) {x : ByteArray} (hx : x ∈ L) : x.size ≤ maxLen := by
  obtain ⟨i, _, rfl⟩ := mem_nth hx; exact h i

/-- The table behind k rounds of 't[x] = v'. -/
noncomputable def bf (X : Nat → ByteArray) (V : Nat → Value) : Nat → ByteArray → Option Value
  | 0 => fun _ => none
  | k + 1 => upd (bf X V k) (X k) (V k)
noncomputable def bs (X : Nat → ByteArray) (V : Nat → Value) : Nat → Nat
  | 0 => 0
  | k + 1 => if (bf X V k (X k)).isSome then bs X V k else bs X V k + 1

theorem bs_le (X : Nat → ByteArray) (V : Nat → Value) : ∀ k, bs X V k ≤ k
  | 0 => Nat.le_refl _
  | k + 1 => by have := bs_le X V k; unfold bs; split <;> omega

theorem run_makeMapH {t k e : TypeId} (ht : Try.prog.underlying t = some (.map k e)) (m : Int) (w : World) : (Instr.makeMap t (some (.int .i64 m))).run Try.prog w = .ok (.map (some w.heap.size)) (w.alloc (.map #[] 0)) := by
  simp [Instr.makeMap, run_underlying ht, asInt, asIntOf, Result.andThen]

theorem zero4 (w : World) : (zeroValue 4).run Try.prog w = .ok (.bool false) w := by kernel_rfl
theorem zero81 (w : World) : (zeroValue 81).run Try.prog w = .ok (.pointer none) w := by kernel_rfl
theorem zero21' (w : World) : (zeroValue 21).run Try.prog w = .ok (.int .i32 0) w := by kernel_rfl

/-- zzSet -/
theorem set_any (w : World) (a : Option Addr) (c : Nat) (L : List ByteArray) (hL : L.length ≤ 1048576) (hf : Fits L) (hs : Strs w a L) :
    Calls Try.prog 29 #[.slice a L.length c] w (fun e w' => e = .returned (.map (some w.heap.size)) ∧ Tab 9 slit w' w.heap.size (bf (nth L) (fun _ => .bool true) L.length) (bs (nth L) (fun _ => .bool true) L.length) ∧ Below w.heap.size w w') := by
  have hmk := @run_makeMapH 59 9 4 Try.underlying59
  have HS : Hid (Strs w a L) := hs
  have HF : Hid (Fits L) := hf
  clear hs hf
  go_enter Try.func29, Try.ntmps29
  go_wp2_with fail
  go_loopw [4] (fun i wr => ∃ k : Nat, k ≤ L.length ∧ i = .int .i64 k ∧ Tab 9 slit wr w.heap.size (bf (nth L) (fun _ => .bool true) k) (bs (nth L) (fun _ => .bool true) k) ∧ Below w.heap.size w wr) (fun i _ => (L.length - (intOf i).toNat))
  case atStart => exact ⟨0, Nat.zero_le _, rfl, Tab.made w, (Below.refl _ _).alloc (Nat.le_refl _) _⟩
  case round =>
    obtain ⟨k, hk, rfl, hT, hbl⟩ := hrel
    by_cases hlt : k < L.length
    · obtain ⟨b, o, rfl, hc⟩ := HS.out (by omega)
      have c1 : wr.cell? ⟨b, o + k, none⟩ = some (.string (nth L k)) := (hbl.cell (lt_of_cell (hc k hlt))).trans (hc k hlt)
      have hkn : (k : Int) < L.length := by omega
      clear hc
      go_wp2_with (at_mapUpdate; refine wp_tab_put strKind Try.underlying59 rfl _ _ _ rfl hT (by have := bs_le (nth L) (fun _ => .bool true) k; unfold maxLen; omega) rfl (nth L k) rfl (HF.out k) (.bool true) rfl ?_; intro w1 hT1 ht1)
      go_roundw
      case rel => exact ⟨k + 1, by omega, by go_num, hT1, hbl.grown ht1.grown hbl.size (fun k hk => by cases hk; exact Nat.le_refl _)⟩
      case measure => simp [intOf]; omega
    · obtain rfl : k = L.length := by omega
      go_wp2_with fail
      go_ret
      exact ⟨rfl, hT, hbl⟩

/-- what zzNumberTable lays at name i -/
def numAt (Z : Nat → Int) (m i : Nat) : Value := .int .i32 (if i < m then Z i else 0)

/-- zzNumberTable -/
theorem numberTable_any (w : World) (a a2 : Option Addr) (c m c2 : Nat) (L : List ByteArray) (Z : Nat → Int) (hL : L.length ≤ 1048576) (hm : m ≤ 1048576) (hf : Fits L) (hs : Strs w a L) (hi : Ints w a2 m Z) :
    Calls Try.prog 19 #[.slice a L.length c, .slice a2 m c2] w (fun e w' => e = .returned (.map (some w.heap.size)) ∧ Tab 9 slit w' w.heap.size (bf (nth L) (numAt Z m) L.length) (bs (nth L) (numAt Z m) L.length) ∧ Below w.heap.size w w') := by
  have hmk := @run_makeMapH 44 9 21 Try.underlying44
  have HS : Hid (Strs w a L) := hs
  have HI : Hid (Ints w a2 m Z) := hi
  have HF : Hid (Fits L) := hf
  clear hs hf hi
  go_enter Try.func19, Try.ntmps19
  go_wp2_with fail
  go_loopw [6] (fun i wr => ∃ k : Nat, k ≤ L.length ∧ i = .int .i64 k ∧ Tab 9 slit wr w.heap.size (bf (nth L) (numAt Z m) k) (bs (nth L) (numAt Z m) k) ∧ Below w.heap.size w wr) (fun i _ => (L.length - (intOf i).toNat))
  case atStart => exact ⟨0, Nat.zero_le _, rfl, Tab.made w, (Below.refl _ _).alloc (Nat.le_refl _) _⟩
  case round =>
    obtain ⟨k, hk, rfl, hT, hbl⟩ := hrel
    by_cases hlt : k < L.length
    · obtain ⟨b, o, rfl, hc⟩ := HS.out (by omega)
      have c1 : wr.cell? ⟨b, o + k, none⟩ = some (.string (nth L k)) := (hbl.cell (lt_of_cell (hc k hlt))).trans (hc k hlt)
      have hkn : (k : Int) < L.length := by omega
      clear hc
      by_cases hkm : k < m
      · obtain ⟨b2, o2, rfl, hc2⟩ := HI.out (by omega)
        have c2 : wr.cell? ⟨b2, o2 + k, none⟩ = some (.int .i32 (Z k)) := (hbl.cell (lt_of_cell (hc2 k hkm))).trans (hc2 k hkm)
        have hkm' : (k : Int) < m := by omega
        clear hc2
        go_wp2_with (at_mapUpdate; refine wp_tab_put strKind Try.underlying44 rfl _ _ _ rfl hT (by have := bs_le (nth L) (numAt Z m) k; unfold maxLen; omega) rfl (nth L k) rfl (HF.out k) (.int .i32 (Z k)) rfl ?_; intro w1 hT1 ht1)
        go_roundw
        case rel =>
          refine ⟨k + 1, by omega, by go_num, ?_, hbl.grown ht1.grown hbl.size (fun k hk => by cases hk; exact Nat.le_refl _)⟩
          have : numAt Z m k = .int .i32 (Z k) := by unfold numAt; rw [if_pos hkm]
          rw [bf, bs, this]
          exact hT1
        case measure => simp [intOf]; omega
      · have hkm' : ¬ (k : Int) < m := by omega
        go_wp2_with (at_mapUpdate; refine wp_tab_put strKind Try.underlying44 rfl _ _ _ rfl hT (by have := bs_le (nth L) (numAt Z m) k; unfold maxLen; omega) rfl (nth L k) rfl (HF.out k) (.int .i32 0) rfl ?_; intro w1 hT1 ht1)
        go_roundw
        case rel =>
          refine ⟨k + 1, by omega, by go_num, ?_, hbl.grown ht1.grown hbl.size (fun k hk => by cases hk; exact Nat.le_refl _)⟩
          have : numAt Z m k = .int .i32 0 := by unfold numAt; rw [if_neg hkm]
          rw [bf, bs, this]
          exact hT1
        case measure => simp [intOf]; omega
    · obtain rfl : k = L.length := by omega
      go_wp2_with fail
      go_ret
      exact ⟨rfl, hT, hbl⟩

/-- what zzTxnMap lays at key i -/
def ptrAt (A : Nat → Option Addr) (m i : Nat) : Value := .pointer (if i < m then A i else none)

set_option maxRecDepth 100000 in
/-- zzTxnMap, keys not nil -/
theorem txnMap_some (w : World) (a : Addr) (a2 : Option Addr) (c m c2 : Nat) (L : List ByteArray) (A : Nat → Option Addr) (hL : L.length ≤ 1048576) (hm : m ≤ 1048576) (hf : Fits L) (hs : Strs w (some a) L) (hi : Vals w a2 m (fun i => .pointer (A i))) :
    Calls Try.prog 20 #[.slice (some a) L.length c, .slice a2 m c2] w (fun e w' => e = .returned (.map (some w.heap.size)) ∧ Tab 9 slit w' w.heap.size (bf (nth L) (ptrAt A m) L.length) (bs (nth L) (ptrAt A m) L.length) ∧ Below w.heap.size w w') := by
  have hmk := @run_makeMapH 46 9 81 Try.underlying46
  have hnil : ∀ (w : World) (l c : Nat), (binOp .eql 40 (.slice (some a) l c) (.slice none 0 0)).run Try.prog w = .ok (.bool false) w := fun w l c => Lib.run_eql_slice_nil w 40 9 (some a) l c 0 0 Try.underlying40
  have HS : Hid (Strs w (some a) L) := hs
  have HI : Hid (Vals w a2 m (fun i => .pointer (A i))) := hi
  have HF : Hid (Fits L) := hf
  clear hs hf hi
  go_enter Try.func20, Try.ntmps20
  go_wp2_with fail
  go_loopw [6] (fun i wr => ∃ k : Nat, k ≤ L.length ∧ i = .int .i64 k ∧ Tab 9 slit wr w.heap.size (bf (nth L) (ptrAt A m) k) (bs (nth L) (ptrAt A m) k) ∧ Below w.heap.size w wr) (fun i _ => (L.length - (intOf i).toNat))
  case atStart => exact ⟨0, Nat.zero_le _, rfl, Tab.made w, (Below.refl _ _).alloc (Nat.le_refl _) _⟩
  case round =>
    obtain ⟨k, hk, rfl, hT, hbl⟩ := hrel
    by_cases hlt : k < L.length
    · obtain ⟨b, o, e, hc⟩ := HS.out (by omega)
      cases e
      have c1 : wr.cell? ⟨b, o + k, none⟩ = some (.string (nth L k)) := (hbl.cell (lt_of_cell (hc k hlt))).trans (hc k hlt)
      have hkn : (k : Int) < L.length := by omega
      clear hc
      by_cases hkm : k < m
      · obtain ⟨b2, o2, rfl, hc2⟩ := HI.out (by omega)
        have c2 : wr.cell? ⟨b2, o2 + k, none⟩ = some (.pointer (A k)) := (hbl.cell (lt_of_cell (hc2 k hkm))).trans (hc2 k hkm)
        have hkm' : (k : Int) < m := by omega
        clear hc2
        go_wp2_with (at_mapUpdate; refine wp_tab_put strKind Try.underlying46 rfl _ _ _ rfl hT (by have := bs_le (nth L) (ptrAt A m) k; unfold maxLen; omega) rfl (nth L k) rfl (HF.out k) (.pointer (A k)) rfl ?_; intro w1 hT1 ht1)
        go_roundw
        case rel =>
          refine ⟨k + 1, by omega, by go_num, ?_, hbl.grown ht1.grown hbl.size (fun k hk => by cases hk; exact Nat.le_refl _)⟩
          have : ptrAt A m k = .pointer (A k) := by unfold ptrAt; rw [if_pos hkm]
          rw [bf, bs, this]
          exact hT1
        case measure => simp [intOf]; omega
      · have hkm' : ¬ (k : Int) < m := by omega
        go_wp2_with (at_mapUpdate; refine wp_tab_put strKind Try.underlying46 rfl _ _ _ rfl hT (by have := bs_le (nth L) (ptrAt A m) k; unfold maxLen; omega) rfl (nth L k) rfl (HF.out k) (.pointer none) rfl ?_; intro w1 hT1 ht1)
        go_roundw
        case rel =>
          refine ⟨k + 1, by omega, by go_num, ?_, hbl.grown ht1.grown hbl.size (fun k hk => by cases hk; exact Nat.le_refl _)⟩
          have : ptrAt A m k = .pointer none := by unfold ptrAt; rw [if_neg hkm]
          rw [bf, bs, this]
          exact hT1
        case measure => simp [intOf]; omega
    · obtain rfl : k = L.length := by omega
      go_wp2_with fail
      go_ret
      exact ⟨rfl, hT, hbl⟩

set_option maxRecDepth 100000 in
/-- zzTxnMap, nil keys -/
theorem txnMap_nil (w : World) (a2 : Option Addr) (m c2 : Nat) :
    Calls Try.prog 20 #[.slice none 0 0, .slice a2 m c2] w (fun e w' => e = .returned (.map none) ∧ w' = w) := by
  have hnil : ∀ (w : World) (l c : Nat), (binOp .eql 40 (.slice none l c) (.slice none 0 0)).run Try.prog w = .ok (.bool true) w := fun w l c => Lib.run_eql_slice_nil w 40 9 none l c 0 0 Try.underlying40
  go_enter Try.func20, Try.ntmps20
  go_wp2_with fail
  go_ret
  exact ⟨rfl, rfl⟩

end Go.Proofs.Qxb6602268a.M
