/- The last writer wins: plain mathematics of the writes of an op. -/
import Derived.Test.Qxb6602268aSetInv
import Derived.Test.Qxb6602268aHash
namespace Go.Proofs.Qxb6602268a.M
open Go.RowKit
set_option linter.unusedVariables false

/-- The table that a backward scan has filled behind c of nw writes. -/
def la (WK WV : Nat → Int) (nw : Nat) : Nat → Int → Option Int
  | 0, _ => none
  | c + 1, k => match la WK WV nw c k with
    | some v => some v
    | none => if WK (nw - (c + 1)) = k then some (WV (nw - (c + 1))) else none

theorem la_old {WK WV : Nat → Int} {nw c : Nat} {k v : Int} (h : la WK WV nw c k = some v) : la WK WV nw (c + 1) k = some v := by rw [la, h]
theorem la_new {WK WV : Nat → Int} {nw c : Nat} {k : Int} (h : la WK WV nw c k = none) : la WK WV nw (c + 1) k = if WK (nw - (c + 1)) = k then some (WV (nw - (c + 1))) else none := by rw [la, h]

/-- A key's page and place are those of its cell. -/
theorem cell_of_key {ps k : Int} (hps : 1 ≤ ps) (hk : 0 ≤ k) (p i : Nat) : (p = (k / ps).toNat ∧ i = (k % ps).toNat) ↔ ((i : Int) < ps ∧ k = keyAt ps p i) := by
  obtain ⟨d0, _⟩ := div_bd k ps hps hk
  obtain ⟨m0, m1⟩ := mod_bd k ps hps
  have e := Int.mul_ediv_add_emod k ps
  unfold keyAt
  constructor
  · rintro ⟨rfl, rfl⟩
    refine ⟨by omega, ?_⟩
    rw [Int.toNat_of_nonneg d0, Int.toNat_of_nonneg m0, Int.mul_comm]
    omega
  · rintro ⟨h1, h2⟩
    have hd : k / ps = p := by
      rw [h2, Int.add_comm, Int.add_mul_ediv_right _ _ (by omega), Int.ediv_eq_zero_of_lt (by omega) h1]; omega
    have hm : k % ps = i := by
      rw [h2, Int.add_comm, Int.add_mul_emod_self_right, Int.emod_eq_of_lt (by omega) h1]
    rw [hd, hm]
    omega

section
variable {Z : Nat → Nat → Int} {ps : Int} {WK WV : Nat → Int} {nw : Nat} (hps : 1 ≤ ps) (hk : ∀ j, j < nw → 0 ≤ WK j ∧ WK j ≤ 2147483647)
include hps hk

theorem Zs_la {p i : Nat} (hi : (i : Int) < ps) : ∀ c, c ≤ nw → Zs Z ps WK WV nw p i = (la WK WV nw c (keyAt ps p i)).getD (Zs Z ps WK WV (nw - c) p i)
  | 0, _ => rfl
  | c + 1, hc => by
    rw [Zs_la hi c (by omega)]
    cases h : la WK WV nw c (keyAt ps p i) with
    | some v => rw [la_old h]; rfl
    | none =>
      rw [la_new h]
      obtain ⟨j, hj⟩ : ∃ j, nw - c = j + 1 := ⟨nw - (c + 1), by omega⟩
      have hj' : nw - (c + 1) = j := by omega
      rw [hj, hj', Zs]
      have := cell_of_key hps (hk j (by omega)).1 p i
      by_cases e : WK j = keyAt ps p i
      · rw [if_pos e, if_pos (this.2 ⟨hi, e⟩), Option.getD_some, Option.getD_none]
      · rw [if_neg e, if_neg (fun x => e (this.1 x).2)]

/-- what a key's cell holds in the end -/
theorem Zs_key {p i : Nat} (h : isKey ps p i = true) : Zs Z ps WK WV nw p i = (la WK WV nw nw (keyAt ps p i)).getD (Z p i) := by
  unfold isKey at h
  rw [decide_eq_true_iff] at h
  rw [Zs_la hps hk h.1 nw (Nat.le_refl _), Nat.sub_self]
  rfl

/-- a cell that is no key's keeps its value -/
theorem Zs_other {p i : Nat} (h : isKey ps p i = false) : ∀ j, j ≤ nw → Zs Z ps WK WV j p i = Z p i
  | 0, _ => rfl
  | j + 1, hj => by
    rw [Zs, if_neg, Zs_other h j (by omega)]
    intro e
    obtain ⟨h1, h2⟩ := (cell_of_key hps (hk j (by omega)).1 p i).1 e
    unfold isKey at h
    rw [decide_eq_false_iff_not] at h
    have := (hk j (by omega)).2
    unfold keyAt at h2
    exact h ⟨h1, by omega⟩
end

theorem fp_U (k v : Int) : U (fpI k v) := by
  unfold fpI
  split
  · unfold U; omega
  · unfold mixI; exact xr_U _ _

/-- hash and state turn together -/
theorem hash_keeps {Z : Nat → Nat → Int} {ps h : Int} {WK WV : Nat → Int} {n : Nat} {L : Nat → Nat} (hps : 1 ≤ ps) (hh : U h) : ∀ j, (∀ i, i < j → kin n L ps (WK i) = true ∧ WK i ≤ 2147483647) →
    U (Hs Z ps WK WV h j) ∧ xr (Hs Z ps WK WV h j) (SH fpI ps L (Zs Z ps WK WV j) n) = xr h (SH fpI ps L Z n)
  | 0, _ => ⟨hh, rfl⟩
  | j + 1, hk => by
    obtain ⟨h1, h2⟩ := hash_keeps hps hh j (fun i hi => hk i (by omega))
    obtain ⟨hkj, hk2⟩ := hk j (by omega)
    obtain ⟨k0, k1, k2⟩ := (kin_iff _ _ _ _).1 hkj
    obtain ⟨m0, m1⟩ := mod_bd (WK j) ps hps
    obtain ⟨e1, e2⟩ := (cell_of_key hps k0 (WK j / ps).toNat (WK j % ps).toNat).1 ⟨rfl, rfl⟩
    have hkey : isKey ps (WK j / ps).toNat (WK j % ps).toNat = true := by
      unfold isKey
      rw [decide_eq_true_iff]
      unfold keyAt at e2
      exact ⟨e1, by omega⟩
    have hs := SH_set (fp := fpI) (ps := ps) (L := L) (Z := Zs Z ps WK WV j) (Z' := Zs Z ps WK WV (j + 1)) fp_U hkey k2 (fun p i hne => by rw [Zs, if_neg hne]) n
    rw [if_pos k1, ← e2] at hs
    have hv : Zs Z ps WK WV (j + 1) (WK j / ps).toNat (WK j % ps).toNat = WV j := by rw [Zs, if_pos ⟨rfl, rfl⟩]
    rw [hv] at hs
    have hd : Hs Z ps WK WV h (j + 1) = xr (Hs Z ps WK WV h j) (xr (fpI (WK j) (Zs Z ps WK WV j (WK j / ps).toNat (WK j % ps).toNat)) (fpI (WK j) (WV j))) := rfl
    refine ⟨by rw [hd]; exact xr_U _ _, ?_⟩
    rw [hs, hd, xr_cancel h1 (SH_U _) (xr_U _ _)]
    exact h2

end Go.Proofs.Qxb6602268a.M
