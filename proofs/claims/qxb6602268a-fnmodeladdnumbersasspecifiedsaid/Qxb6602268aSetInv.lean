/- (*model).set over the state that a run of writes has made so far. -/
import Derived.Test.Qxb6602268aSet
namespace Go.Proofs.Qxb6602268a.M
open Go.ChangeShapes Go.WideShapes Go.ChangeAt Go.RowKit
set_option linter.unusedVariables false

/-- One of the first j writes falls on page p. -/
def hit (ps : Int) (WK : Nat → Int) : Nat → Nat → Bool
  | 0, _ => false
  | j + 1, p => hit ps WK j p || (p == (WK j / ps).toNat)

/-- The cells behind the first j writes. -/
def Zs (Z : Nat → Nat → Int) (ps : Int) (WK WV : Nat → Int) : Nat → Nat → Nat → Int
  | 0, p, i => Z p i
  | j + 1, p, i => if p = (WK j / ps).toNat ∧ i = (WK j % ps).toNat then WV j else Zs Z ps WK WV j p i

/-- The hash behind the first j writes. -/
def Hs (Z : Nat → Nat → Int) (ps : Int) (WK WV : Nat → Int) (h : Int) : Nat → Int
  | 0 => h
  | j + 1 => bits .xor .u64 (Hs Z ps WK WV h j) (bits .xor .u64 (fpI (WK j) (Zs Z ps WK WV j (WK j / ps).toNat (WK j % ps).toNat)) (fpI (WK j) (WV j)))

theorem Zs_untouched {Z : Nat → Nat → Int} {ps : Int} {WK WV : Nat → Int} {p : Nat} : ∀ {j : Nat}, hit ps WK j p = false → ∀ i, Zs Z ps WK WV j p i = Z p i
  | 0, _, _ => rfl
  | j + 1, h, i => by
    simp only [hit, Bool.or_eq_false_iff, beq_eq_false_iff_ne] at h
    rw [Zs, if_neg (fun e => h.2 e.1)]
    exact Zs_untouched h.1 i

/-- What 'next' is behind j writes: its own variable X, its list of pages N; a page that was hit lies in a block of its own, any other is the given one. -/
structure Nx (w0 wr : World) (B X N n nc : Nat) (A : Nat → Option Addr) (L C : Nat → Nat) (Z : Nat → Nat → Int) (ps : Int) (WK WV : Nat → Int) (h : Int) (j : Nat) (Gb Gc : Nat → Nat) (F : Nat → Value) : Prop where
  bX : B ≤ X
  bN : B ≤ N
  x : wr.rowIs X 77 2 (fun i => if i = 0 then .slice (some ⟨N, 0, none⟩) n nc else .int .u64 (Hs Z ps WK WV h j))
  nn : wr.rowIs N 24 nc F
  f : ∀ p, p < n → F p = if hit ps WK j p then .slice (some ⟨Gb p, 0, none⟩) (L p) (Gc p) else .slice (A p) (L p) (C p)
  g : ∀ p, p < n → hit ps WK j p = true → B ≤ Gb p ∧ L p ≤ Gc p ∧ ∃ G, wr.rowIs (Gb p) 21 (Gc p) G ∧ ∀ i, i < L p → G i = .int .i32 (Zs Z ps WK WV j p i)
  inj : ∀ p q, p < n → q < n → hit ps WK j p = true → hit ps WK j q = true → p ≠ q → Gb p ≠ Gb q
  bel : Below B w0 wr

theorem rowIs_drewN {w : World} {b t n q : Nat} {f : Nat → Value} (h : w.rowIs b t n f) : (w.drewN q).rowIs b t n f := h

variable {w0 wr : World} {B X N n nc : Nat} {A : Nat → Option Addr} {L C : Nat → Nat} {Z : Nat → Nat → Int} {ps : Int} {WK WV : Nat → Int} {h : Int} {j : Nat} {Gb Gc : Nat → Nat} {F : Nat → Value}

/-- behind a store into a page of its own -/
theorem Nx.fresh (H : Nx w0 wr B X N n nc A L C Z ps WK WV h j Gb Gc F) (hB : B ≤ wr.heap.size) (hp : (WK j / ps).toNat < n) (hh : hit ps WK j (WK j / ps).toNat = true) (box : Obj) (nq : Nat) :
    Nx w0 ((((wr.alloc box).setCell ⟨X, 1, none⟩ (.int .u64 (Hs Z ps WK WV h (j + 1)))).setCell ⟨Gb (WK j / ps).toNat, (WK j % ps).toNat, none⟩ (.int .i32 (WV j))).drewN nq) B X N n nc A L C Z ps WK WV h (j + 1) Gb Gc F := by
  obtain ⟨g1, g2, G, g3, g4⟩ := H.g _ hp hh
  have nX : X ≠ Gb (WK j / ps).toNat := rowIs_ne H.x g3 (by omega)
  have nN : N ≠ Gb (WK j / ps).toNat := rowIs_ne H.nn g3 (by omega)
  have nXN : N ≠ X := rowIs_ne H.nn H.x (by omega)
  have hhit : ∀ p, hit ps WK (j + 1) p = hit ps WK j p := by
    intro p
    rw [hit]
    by_cases e : p = (WK j / ps).toNat
    · rw [e, hh]; rfl
    · rw [beq_eq_false_iff_ne.2 e, Bool.or_false]
  refine ⟨H.bX, H.bN, rowIs_drewN ((((H.x.alloc box).set 1 _).setOther nX _).congr fun i hi => ?_), rowIs_drewN (((H.nn.alloc box).setOther nXN _).setOther nN _), fun p hp' => ?_, fun p hp' hp2 => ?_, fun p q hp' hq h1 h2 => ?_, ?_⟩
  · by_cases e : i = 1
    · subst e; simp
    · obtain rfl : i = 0 := by omega
      simp
  · rw [hhit]; exact H.f p hp'
  · rw [hhit] at hp2
    obtain ⟨k1, k2, K, k3, k4⟩ := H.g p hp' hp2
    refine ⟨k1, k2, ?_⟩
    have nXp : Gb p ≠ X := rowIs_ne k3 H.x (by omega)
    by_cases e : p = (WK j / ps).toNat
    · subst e
      refine ⟨_, rowIs_drewN (((k3.alloc box).setOther nXp _).set (WK j % ps).toNat (.int .i32 (WV j))), fun i hi => ?_⟩
      by_cases e2 : i = (WK j % ps).toNat
      · rw [if_pos e2, Zs, if_pos ⟨rfl, e2⟩]
      · rw [if_neg e2, Zs, if_neg (fun x => e2 x.2)]; exact k4 i hi
    · refine ⟨K, rowIs_drewN (((k3.alloc box).setOther nXp _).setOther (H.inj p _ hp' hp hp2 hh e) _), fun i hi => ?_⟩
      rw [Zs, if_neg (fun x => e x.1)]; exact k4 i hi
  · rw [hhit] at h1 h2; exact H.inj p q hp' hq h1 h2
  · exact below_drewN (((H.bel.alloc hB box).setCell H.bX _).setCell g1 _)

/-- behind the first store into a page -/
theorem Nx.shared (H : Nx w0 wr B X N n nc A L C Z ps WK WV h j Gb Gc F) (hB : B ≤ wr.heap.size) (hp : (WK j / ps).toNat < n) (hh : hit ps WK j (WK j / ps).toNat = false) {w1 : World} {g cap nq : Nat} {f : Nat → Value}
    (hg : wr.heap.size ≤ g) (hr : w1.rowIs g 21 cap f) (hcap : L (WK j / ps).toNat ≤ cap) (hf : ∀ i, i < L (WK j / ps).toNat → f i = .int .i32 (Z (WK j / ps).toNat i)) (hb : Below wr.heap.size wr w1) :
    ∃ Gb' Gc' F', Nx w0 ((((w1.setCell ⟨N, (WK j / ps).toNat, none⟩ (.slice (some ⟨g, 0, none⟩) (L (WK j / ps).toNat) cap)).setCell ⟨X, 1, none⟩ (.int .u64 (Hs Z ps WK WV h (j + 1)))).setCell ⟨g, (WK j % ps).toNat, none⟩ (.int .i32 (WV j))).drewN nq) B X N n nc A L C Z ps WK WV h (j + 1) Gb' Gc' F' := by
  have hx := rowIs_below H.x hb H.x.lt
  have hnn := rowIs_below H.nn hb H.nn.lt
  have nX : X ≠ g := rowIs_ne hx hr (by omega)
  have nN : N ≠ g := rowIs_ne hnn hr (by omega)
  have nXN : X ≠ N := rowIs_ne hx hnn (by omega)
  have hhit : ∀ p, p ≠ (WK j / ps).toNat → hit ps WK (j + 1) p = hit ps WK j p := by
    intro p e
    rw [hit, beq_eq_false_iff_ne.2 e, Bool.or_false]
  have hhit2 : hit ps WK (j + 1) (WK j / ps).toNat = true := by rw [hit]; simp
  refine ⟨fun p => if p = (WK j / ps).toNat then g else Gb p, fun p => if p = (WK j / ps).toNat then cap else Gc p, _, H.bX, H.bN,
    rowIs_drewN ((((hx.setOther nXN _).set 1 _).setOther nX _).congr fun i hi => ?_), rowIs_drewN (((hnn.set (WK j / ps).toNat _).setOther (Ne.symm nXN) _).setOther nN _), fun p hp' => ?_, fun p hp' hp2 => ?_, fun p q hp' hq h1 h2 hne => ?_, ?_⟩
  · by_cases e : i = 1
    · subst e; simp
    · obtain rfl : i = 0 := by omega
      simp
  · by_cases e : p = (WK j / ps).toNat
    · subst e
      simp only [if_pos, hhit2]
    · simp only [if_neg e, hhit p e]
      exact H.f p hp'
  · by_cases e : p = (WK j / ps).toNat
    · subst e
      simp only [if_pos]
      refine ⟨Nat.le_trans hB hg, hcap, _, rowIs_drewN (((hr.setOther (Ne.symm nN) _).setOther (Ne.symm nX) _).set (WK j % ps).toNat (.int .i32 (WV j))), fun i hi => ?_⟩
      by_cases e2 : i = (WK j % ps).toNat
      · rw [if_pos e2, Zs, if_pos ⟨rfl, e2⟩]
      · rw [if_neg e2, Zs, if_neg (fun x => e2 x.2), Zs_untouched hh]; exact hf i hi
    · simp only [if_neg e]
      rw [hhit p e] at hp2
      obtain ⟨k1, k2, K, k3, k4⟩ := H.g p hp' hp2
      have k3' := rowIs_below k3 hb k3.lt
      have n1 : Gb p ≠ g := by have := k3.lt; omega
      have n2 : Gb p ≠ X := rowIs_ne k3' hx (by omega)
      have n3 : Gb p ≠ N := rowIs_ne k3' hnn (by omega)
      refine ⟨k1, k2, K, rowIs_drewN (((k3'.setOther n3 _).setOther n2 _).setOther n1 _), fun i hi => ?_⟩
      rw [Zs, if_neg (fun x => e x.1)]; exact k4 i hi
  · by_cases e : p = (WK j / ps).toNat
    · by_cases e2 : q = (WK j / ps).toNat
      · exact absurd (e.trans e2.symm) hne
      · simp only [if_pos e, if_neg e2]
        rw [hhit q e2] at h2
        obtain ⟨_, _, K, k3, _⟩ := H.g q hq h2
        have := k3.lt; omega
    · rw [hhit p e] at h1
      obtain ⟨_, _, K, k3, _⟩ := H.g p hp' h1
      by_cases e2 : q = (WK j / ps).toNat
      · simp only [if_neg e, if_pos e2]
        have := k3.lt; omega
      · simp only [if_neg e, if_neg e2]
        rw [hhit q e2] at h2
        exact H.inj p q hp' hq h1 h2 hne
  · exact below_drewN ((((H.bel.trans (hb.mono hB)).setCell H.bN _).setCell H.bX _).setCell (by exact Nat.le_trans hB hg) _)

end Go.Proofs.Qxb6602268a.M
