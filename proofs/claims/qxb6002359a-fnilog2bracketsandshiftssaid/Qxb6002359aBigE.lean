/- math/big: Int.Lsh's three uses; the words of a power of two. -/
import Derived.Test.Qxb6002359aBigD
namespace Go.Proofs.Qxb6002359a.B
open Go.RowKit Go.ChangeShapes Go.WideShapes Go.ChangeAt
set_option linter.unusedVariables false
set_option linter.unusedSimpArgs false

theorem alloc_at (w : World) (o : Obj) : (w.alloc o).heap[w.heap.size]? = some o := by
  show (w.heap.push o)[w.heap.size]? = some o
  simp
theorem alloc_size (w : World) (o : Obj) : (w.alloc o).heap.size = w.heap.size + 1 := by
  show (w.heap.push o).size = _
  simp
/-- a new Int -/
theorem newInt (w : World) : Plain (w.alloc (.cells #[.bool false, .slice none 0 0] 65)) w.heap.size ∧ IntAt (w.alloc (.cells #[.bool false, .slice none 0 0] 65)) w.heap.size 0 false none 0 0 ∧ Below w.heap.size w (w.alloc (.cells #[.bool false, .slice none 0 0] 65)) := by
  refine ⟨⟨#[.bool false, .slice none 0 0], 65, alloc_at _ _⟩, ⟨?_, ?_⟩, (Below.refl _ _).alloc (Nat.le_refl _) _⟩
  · unfold World.cell?; rw [alloc_at]; rfl
  · unfold World.cell?; rw [alloc_at]; rfl
theorem newRat (w : World) : Plain (w.alloc (.cells #[.bool false, .slice none 0 0, .bool false, .slice none 0 0] 70)) w.heap.size ∧ RatAt (w.alloc (.cells #[.bool false, .slice none 0 0, .bool false, .slice none 0 0] 70)) w.heap.size false none 0 0 none 0 0 ∧ Below w.heap.size w (w.alloc (.cells #[.bool false, .slice none 0 0, .bool false, .slice none 0 0] 70)) := by
  refine ⟨⟨_, _, alloc_at _ _⟩, ⟨⟨?_, ?_⟩, ?_, ?_⟩, (Below.refl _ _).alloc (Nat.le_refl _) _⟩
  · unfold World.cell?; rw [alloc_at]; rfl
  · unfold World.cell?; rw [alloc_at]; rfl
  · unfold World.cell?; rw [alloc_at]; rfl
  · unfold World.cell?; rw [alloc_at]; rfl
theorem RatAt.below {w w' : World} {r : Nat} {neg : Bool} {a a1 : Option Addr} {n c n1 c1 : Nat} (h : RatAt w r neg a n c a1 n1 c1) (k : Below w.heap.size w w') : RatAt w' r neg a n c a1 n1 c1 := ⟨h.1.below k, h.2.below k⟩
theorem RatAt.kept {z : Nat} {w w' : World} {r : Nat} {neg : Bool} {a a1 : Option Addr} {n c n1 c1 : Nat} (h : RatAt w r neg a n c a1 n1 c1) (k : Kept z w w') (hz : r ≠ z) : RatAt w' r neg a n c a1 n1 c1 := ⟨h.1.kept k hz, h.2.kept k hz⟩
theorem log2_lt64 (x : Nat) (h : x < 18446744073709551616) : Nat.log2 x < 64 := by
  by_cases h0 : x = 0
  · subst h0; decide
  · exact (Nat.log2_lt h0).2 h

/-- n words, the top one not 0 -/
structure Num (n : Nat) (W : Nat → Nat) : Prop where
  one : 1 ≤ n
  small : n ≤ 15000
  top : 1 ≤ W (n - 1)
  word : ∀ j, j < n → W j < 18446744073709551616
theorem Num.bl_le {n : Nat} {W : Nat → Nat} (h : Num n W) : bl n W ≤ 960000 ∧ 1 ≤ bl n W := by
  have := log2_lt64 _ (h.word (n - 1) (by have := h.one; omega))
  have := h.small
  unfold bl
  omega
theorem Num.bl_div {n : Nat} {W : Nat → Nat} (h : Num n W) : (bl n W - 1) / 64 = n - 1 := by
  have := log2_lt64 _ (h.word (n - 1) (by have := h.one; omega))
  unfold bl
  omega
theorem Num.bl_mod {n : Nat} {W : Nat → Nat} (h : Num n W) : (bl n W - 1) % 64 = Nat.log2 (W (n - 1)) := by
  have := log2_lt64 _ (h.word (n - 1) (by have := h.one; omega))
  unfold bl
  omega
theorem valW_zero {W : Nat → Nat} : ∀ n, (∀ j, j < n → W j = 0) → valW W n = 0
  | 0, _ => rfl
  | n + 1, h => by
    unfold valW
    rw [valW_zero n (fun j hj => h j (by omega)), h n (by omega)]
    simp
theorem valW_pow (q t : Nat) : valW (powW q t) (q + 1) = 2 ^ (64 * q + t) := by
  unfold valW
  rw [valW_zero q (fun j hj => by unfold powW; rw [if_neg (by omega)])]
  unfold powW
  rw [if_pos rfl, Nat.pow_add, Nat.mul_comm, Nat.zero_add]
theorem powW_word {q t : Nat} (ht : t < 64) (j : Nat) : powW q t j < 18446744073709551616 := by
  unfold powW
  split
  · exact Nat.pow_lt_pow_right (a := 2) (n := 64) (by omega) ht
  · omega
/-- 2 ^ (bits - 1) ≤ x < 2 ^ bits -/
theorem Num.val_ge {n : Nat} {W : Nat → Nat} (h : Num n W) : 2 ^ (bl n W - 1) ≤ valW W n := by
  obtain ⟨m, rfl⟩ : ∃ m, n = m + 1 := ⟨n - 1, by have := h.one; omega⟩
  have ht := h.top
  have e : bl (m + 1) W - 1 = 64 * m + Nat.log2 (W m) := by unfold bl; simp only [Nat.add_sub_cancel]; omega
  rw [e, Nat.pow_add, Nat.mul_comm]
  unfold valW
  have h2 : 2 ^ Nat.log2 (W m) ≤ W m := Nat.log2_self_le (by simp only [Nat.add_sub_cancel] at ht; omega)
  have := Nat.mul_le_mul_right (2 ^ (64 * m)) h2
  omega
theorem Num.val_lt {n : Nat} {W : Nat → Nat} (h : Num n W) : valW W n < 2 ^ (bl n W) := by
  obtain ⟨m, rfl⟩ : ∃ m, n = m + 1 := ⟨n - 1, by have := h.one; omega⟩
  have e : bl (m + 1) W = 64 * m + (Nat.log2 (W m) + 1) := by unfold bl; simp only [Nat.add_sub_cancel]
  rw [e, Nat.pow_add, Nat.mul_comm]
  unfold valW
  have h1 := valW_lt m (fun j hj => h.word j (by omega))
  have h2 : W m + 1 ≤ 2 ^ (Nat.log2 (W m) + 1) := Nat.lt_log2_self
  have := Nat.mul_le_mul_right (2 ^ (64 * m)) h2
  rw [Nat.add_mul] at this
  omega
theorem Num.log2 {n : Nat} {W : Nat → Nat} (h : Num n W) : bl n W = Nat.log2 (valW W n) + 1 := by
  have h1 := h.val_ge
  have h2 := h.val_lt
  have h3 := h.bl_le
  have h0 : valW W n ≠ 0 := by
    have : 0 < 2 ^ (bl n W - 1) := Nat.pow_pos (by omega)
    omega
  have : Nat.log2 (valW W n) = bl n W - 1 := (Nat.log2_eq_iff h0).2 ⟨h1, by rwa [show bl n W - 1 + 1 = bl n W by omega]⟩
  omega

/-- Lsh of 1 onto a new number, another Int's or its own -/
theorem intLsh_one (w : World) (zb zo xb xo g lz cz cx s q t : Nat) (az : Option Addr) (zn xn : Bool) (W : Nat → Nat) (hW : W 0 = 1) (h1 : 1 ≤ s) (hs : s ≤ 1000000) (hq : s / 64 = q) (ht : s % 64 = t) (hcz : cz < q + 2) (hne : (⟨xb, xo, none⟩ : Addr) ≠ ⟨zb, zo + 1, none⟩) (hz : Plain w zb) (zi : IntAt w zb zo zn az lz cz) (xi : IntAt w xb xo xn (some ⟨g, 0, none⟩) 1 cx) (hw : Wds w (some ⟨g, 0, none⟩) 1 W) :
    Calls Try.prog 54 #[.pointer (some ⟨zb, zo, none⟩), .pointer (some ⟨xb, xo, none⟩), .int .u64 (s : Nat)] w (fun e w' => e = .returned (.pointer (some ⟨zb, zo, none⟩)) ∧ ∃ c, IntAt w' zb zo xn (some ⟨w.heap.size, 0, none⟩) (q + 1) c ∧ Wds w' (some ⟨w.heap.size, 0, none⟩) (q + 1) (powW q t) ∧ Kept zb w w') := by
  obtain ⟨b, hb, hc⟩ := hw (by omega)
  cases hb
  have hx := hc 0 (by omega)
  rw [hW] at hx
  refine (intLsh_gen w zb zo xb xo s lz cz 1 cx az (some ⟨g, 0, none⟩) zn xn (fun a k c w1 => a = some ⟨w.heap.size, 0, none⟩ ∧ k = q + 1 ∧ Wds w1 (some ⟨w.heap.size, 0, none⟩) (q + 1) (powW q t) ∧ Below w.heap.size w w1) hne hz zi xi (fun a k c w1 h => h.2.2.2) ?_).mono ?_
  · refine (lsh_one w.drew az lz cz g cx s q t h1 hs hq ht hcz hx).mono ?_
    rintro e w1 ⟨c, rfl, h1, h2⟩
    exact ⟨_, _, c, rfl, rfl, rfl, h1, ⟨h2.os, h2.tape, h2.output, h2.size, h2.block⟩⟩
  · rintro e w' ⟨rfl, a, k, c, w1, ⟨rfl, rfl, hw1, hb1⟩, rfl⟩
    exact ⟨rfl, c, (zi.below hb1).put, ((Kept.refl zb w1).put2 _ _).wds hw1 (by have := hz.lt; omega), (Kept.of_below hb1).put2 _ _⟩
/-- Lsh by 0 in place -/
theorem intLsh_zero (w : World) (b o g n c : Nat) (neg : Bool) (h1 : 1 ≤ n) (hz : Plain w b) (zi : IntAt w b o neg (some ⟨g, 0, none⟩) n c) :
    Calls Try.prog 54 #[.pointer (some ⟨b, o, none⟩), .pointer (some ⟨b, o, none⟩), .int .u64 (0 : Nat)] w (fun e w' => e = .returned (.pointer (some ⟨b, o, none⟩)) ∧ IntAt w' b o neg (some ⟨g, 0, none⟩) n c ∧ Kept b w w') := by
  refine (intLsh_gen w b o b o 0 n c n c (some ⟨g, 0, none⟩) (some ⟨g, 0, none⟩) neg neg (fun a k c' w1 => a = some ⟨g, 0, none⟩ ∧ k = n ∧ c' = c ∧ Below w.heap.size w w1) (by simp) hz zi zi (fun a k c w1 h => h.2.2.2) ?_).mono ?_
  · refine (lsh_zero w.drew g n c h1).mono ?_
    rintro e w1 ⟨rfl, q, rfl⟩
    exact ⟨_, _, _, rfl, rfl, rfl, rfl, ⟨rfl, rfl, rfl, Nat.le_refl _, fun _ _ => rfl⟩⟩
  · rintro e w' ⟨rfl, a, k, c', w1, ⟨rfl, rfl, rfl, hb1⟩, rfl⟩
    exact ⟨rfl, (zi.below hb1).put, (Kept.of_below hb1).put2 _ _⟩

end Go.Proofs.Qxb6002359a.B
