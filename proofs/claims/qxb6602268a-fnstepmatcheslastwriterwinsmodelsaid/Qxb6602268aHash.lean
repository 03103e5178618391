/- The hash of a state: plain mathematics over xor on 64 bits. -/
import Derived.Laws.BitsAllLaws
import Derived.OpenShut
namespace Go.Proofs.Qxb6602268a.M
open Go.RowKit
set_option linter.unusedVariables false

def U (x : Int) : Prop := 0 ≤ x ∧ x < 18446744073709551616
/-- xor on 64 bits -/
def xr (x y : Int) : Int := bits .xor .u64 x y

theorem xr_U (x y : Int) : U (xr x y) := by
  have := bounds_u64 (wf_bits .xor .u64 x y)
  unfold U xr
  omega

theorem xr_nat {x y : Int} (hx : U x) (hy : U y) : xr x y = ((x.toNat ^^^ y.toNat : Nat) : Int) := u64_xor x y hx.1 hx.2 hy.1 hy.2

theorem xr_toNat {x y : Int} (hx : U x) (hy : U y) : (xr x y).toNat = x.toNat ^^^ y.toNat := by rw [xr_nat hx hy, Int.toNat_natCast]

theorem U_ext {x y : Int} (hx : U x) (hy : U y) (h : x.toNat = y.toNat) : x = y := by
  unfold U at hx hy
  omega

theorem xr_right_comm {a b c : Int} (ha : U a) (hb : U b) (hc : U c) : xr (xr a b) c = xr (xr a c) b := by
  refine U_ext (xr_U _ _) (xr_U _ _) ?_
  rw [xr_toNat (xr_U _ _) hc, xr_toNat ha hb, xr_toNat (xr_U _ _) hb, xr_toNat ha hc, Nat.xor_assoc, Nat.xor_comm b.toNat, ← Nat.xor_assoc]

theorem xr_cancel {a b d : Int} (ha : U a) (hb : U b) (hd : U d) : xr (xr a d) (xr b d) = xr a b := by
  refine U_ext (xr_U _ _) (xr_U _ _) ?_
  rw [xr_toNat (xr_U _ _) (xr_U _ _), xr_toNat ha hd, xr_toNat hb hd, xr_toNat ha hb, Nat.xor_comm b.toNat, Nat.xor_assoc, ← Nat.xor_assoc d.toNat, Nat.xor_self, Nat.zero_xor]

/-- replacing x by y under a xor is a xor by both -/
theorem xr_swap {a x y : Int} (ha : U a) (hx : U x) (hy : U y) : xr a y = xr (xr a x) (xr x y) := by
  refine U_ext (xr_U _ _) (xr_U _ _) ?_
  rw [xr_toNat (xr_U _ _) (xr_U _ _), xr_toNat ha hx, xr_toNat hx hy, xr_toNat ha hy, Nat.xor_assoc, ← Nat.xor_assoc x.toNat, Nat.xor_self, Nat.zero_xor]

/-- Cell i of page p is some key's. -/
def isKey (ps : Int) (p i : Nat) : Bool := decide ((i : Int) < ps ∧ (p : Int) * ps + i ≤ 2147483647)
def keyAt (ps : Int) (p i : Nat) : Int := (p : Int) * ps + i

/-- the hash acc with the first m cells of page p (which reads z) laid over it -/
def rowH (fp : Int → Int → Int) (ps : Int) (p : Nat) (z : Nat → Int) : Nat → Int → Int
  | 0, acc => acc
  | i + 1, acc => if isKey ps p i then xr (rowH fp ps p z i acc) (fp (keyAt ps p i) (z i)) else rowH fp ps p z i acc

/-- the hash of the first n pages -/
def SH (fp : Int → Int → Int) (ps : Int) (L : Nat → Nat) (Z : Nat → Nat → Int) : Nat → Int
  | 0 => 0
  | p + 1 => rowH fp ps p (Z p) (L p) (SH fp ps L Z p)

variable {fp : Int → Int → Int} {ps : Int} {L : Nat → Nat}

theorem rowH_U {p : Nat} {z : Nat → Int} : ∀ (m : Nat) {acc : Int}, U acc → U (rowH fp ps p z m acc)
  | 0, _, h => h
  | m + 1, _, h => by
    rw [rowH]
    split
    · exact xr_U _ _
    · exact rowH_U m h

theorem SH_U {Z : Nat → Nat → Int} : ∀ n, U (SH fp ps L Z n)
  | 0 => by unfold U SH; omega
  | n + 1 => rowH_U _ (SH_U n)

theorem rowH_congr {p : Nat} {z z' : Nat → Int} : ∀ (m : Nat) (acc : Int), (∀ i, i < m → z i = z' i) → rowH fp ps p z m acc = rowH fp ps p z' m acc
  | 0, _, _ => rfl
  | m + 1, acc, h => by rw [rowH, rowH, rowH_congr m acc (fun i hi => h i (by omega)), h m (by omega)]

theorem rowH_xr (hfp : ∀ k v, U (fp k v)) {p : Nat} {z : Nat → Int} {d : Int} (hd : U d) : ∀ (m : Nat) (acc : Int), U acc → rowH fp ps p z m (xr acc d) = xr (rowH fp ps p z m acc) d
  | 0, _, _ => rfl
  | m + 1, acc, h => by
    rw [rowH, rowH, rowH_xr hfp hd m acc h]
    split
    · exact xr_right_comm (rowH_U m h) hd (hfp _ _)
    · rfl

/-- one cell of the row turned from z i0 to v -/
theorem rowH_set (hfp : ∀ k v, U (fp k v)) {p i0 : Nat} {z z' : Nat → Int} (hk : isKey ps p i0 = true) (ho : ∀ i, i ≠ i0 → z' i = z i) : ∀ (m : Nat) (acc : Int), U acc → i0 < m →
    rowH fp ps p z' m acc = xr (rowH fp ps p z m acc) (xr (fp (keyAt ps p i0) (z i0)) (fp (keyAt ps p i0) (z' i0)))
  | 0, _, _, h => by omega
  | m + 1, acc, h, hi => by
    rw [rowH, rowH]
    by_cases e : i0 = m
    · subst e
      rw [if_pos hk, if_pos hk, rowH_congr i0 acc (z := z') (z' := z) (fun i hi => ho i (by omega))]
      exact xr_swap (rowH_U _ h) (hfp _ _) (hfp _ _)
    · rw [rowH_set hfp hk ho m acc h (by omega), ho m (fun x => e x.symm)]
      split
      · exact xr_right_comm (rowH_U m h) (xr_U _ _) (hfp _ _)
      · rfl

theorem SH_set (hfp : ∀ k v, U (fp k v)) {p0 i0 : Nat} {Z Z' : Nat → Nat → Int} (hk : isKey ps p0 i0 = true) (hi : i0 < L p0) (ho : ∀ p i, ¬ (p = p0 ∧ i = i0) → Z' p i = Z p i) : ∀ n,
    SH fp ps L Z' n = if p0 < n then xr (SH fp ps L Z n) (xr (fp (keyAt ps p0 i0) (Z p0 i0)) (fp (keyAt ps p0 i0) (Z' p0 i0))) else SH fp ps L Z n
  | 0 => by rw [if_neg (by omega)]; rfl
  | n + 1 => by
    rw [SH, SH, SH_set hfp hk hi ho n]
    by_cases e : p0 = n
    · subst e
      rw [if_neg (by omega), if_pos (by omega)]
      exact rowH_set hfp hk (fun i hne => ho _ _ (fun x => hne x.2)) _ _ (SH_U _) hi
    · rw [rowH_congr (z := Z' n) (z' := Z n) _ _ (fun i _ => ho n i (fun x => e x.1.symm))]
      by_cases e2 : p0 < n
      · rw [if_pos e2, if_pos (by omega), rowH_xr hfp (xr_U _ _) _ _ (SH_U _)]
      · rw [if_neg e2, if_neg (by omega)]

end Go.Proofs.Qxb6602268a.M
