/- (*model).set, at whatever state a run of writes has made. -/
import Derived.Test.Qxb6602268aSetInv
namespace Go.Proofs.Qxb6602268a.M
open Go.ChangeShapes Go.WideShapes Go.ChangeAt Go.RowKit
set_option linter.unusedVariables false

theorem set_inv {w0 wr : World} {X N n nc mb cb cc : Nat} {A : Nat → Option Addr} {L C : Nat → Nat} {Z : Nat → Nat → Int} {ps : Int} {WK WV : Nat → Int} {h h0 : Int} {j : Nat} {Gb Gc : Nat → Nat} {F : Nat → Value}
    (H : Nx w0 wr w0.heap.size X N n nc A L C Z ps WK WV h j Gb Gc F) (hcp : Cp w0 (some ⟨cb, 0, none⟩) n A L C Z) (hm : w0.cell? ⟨mb, 3, none⟩ = some (.int .i32 ps))
    (hps : 1 ≤ ps) (hps2 : ps ≤ 2147483647) (hn : n ≤ 131072) (hnc : n ≤ nc) (hL : ∀ r, r < n → L r ≤ 131072) (hk : kin n L ps (WK j) = true) (hk2 : WK j ≤ 2147483647) :
    Calls Try.prog 47 #[.pointer (some ⟨mb, 0, none⟩), .pointer (some ⟨X, 0, none⟩), .agg #[.slice (some ⟨cb, 0, none⟩) n cc, .int .u64 h0], .int .i32 (WK j), .int .i32 (WV j)] wr
      fun e w' => e = .returned (.tuple #[]) ∧ ∃ Gb' Gc' F', Nx w0 w' w0.heap.size X N n nc A L C Z ps WK WV h (j + 1) Gb' Gc' F' := by
  obtain ⟨k0, k1, k2⟩ := (kin_iff _ _ _ _).1 hk
  obtain ⟨cb', e, htop⟩ := hcp.top (by omega)
  cases e
  obtain ⟨y, hy, hrow⟩ := hcp.row _ k1 (by omega)
  have hB : w0.heap.size ≤ wr.heap.size := H.bel.size
  have htop' := rowIs_below htop H.bel htop.lt
  have hrow' := rowIs_below hrow H.bel hrow.lt
  have hm' : wr.cell? ⟨mb, 3, none⟩ = _ := (H.bel.cell (lt_of_cell hm)).trans hm
  have hD : (.slice (A (WK j / ps).toNat) (L (WK j / ps).toNat) (C (WK j / ps).toNat) : Value) = .slice (some ⟨y, 0, none⟩) (L (WK j / ps).toNat) (C (WK j / ps).toNat) := by rw [hy]
  cases hh : hit ps WK j (WK j / ps).toNat
  · have hF := H.f _ k1
    rw [hh] at hF
    simp only [Bool.false_eq_true, if_false] at hF
    rw [hy] at hF
    have nNC : N ≠ cb := by have := htop.lt; have := H.bN; omega
    refine (set_shared mb X N cb y n nc cc (L (WK j / ps).toNat) (C (WK j / ps).toNat) ps h0 (Hs Z ps WK WV h j) (WK j) (WV j) _ F _ (Z (WK j / ps).toNat) wr hps hps2 k0 hk2 hn hnc (hL _ k1) k1 k2 hm' H.x rfl rfl H.nn hF nNC htop' hD hrow').mono ?_
    rintro e w' ⟨he, w1, g, cap, nq, f, hg, hr, hcap, hf, hb, hw⟩
    refine ⟨he, ?_⟩
    subst hw
    have e1 : bits .xor .u64 (Hs Z ps WK WV h j) (bits .xor .u64 (fpI (WK j) (Z (WK j / ps).toNat (WK j % ps).toNat)) (fpI (WK j) (WV j))) = Hs Z ps WK WV h (j + 1) := by
      rw [Hs, Zs_untouched hh]
    rw [e1]
    exact H.shared hB k1 hh hg hr hcap hf hb
  · obtain ⟨g1, g2, G, g3, g4⟩ := H.g _ k1 hh
    have hF := H.f _ k1
    rw [hh] at hF
    simp only [if_true] at hF
    have hne : Gb (WK j / ps).toNat ≠ y := by have := hrow.lt; omega
    refine (set_fresh mb X N cb y (Gb (WK j / ps).toNat) n nc cc (L (WK j / ps).toNat) (C (WK j / ps).toNat) (Gc (WK j / ps).toNat) ps h0 (Hs Z ps WK WV h j) (WK j) (WV j) (Zs Z ps WK WV j (WK j / ps).toNat (WK j % ps).toNat) _ F _ G (Z (WK j / ps).toNat) wr hps hps2 k0 hk2 hn hnc (hL _ k1) g2 k1 k2 hm' H.x rfl rfl H.nn hF g3 (g4 _ k2) htop' hD hrow' hne).mono ?_
    rintro e w' ⟨he, nq, hw⟩
    refine ⟨he, Gb, Gc, F, ?_⟩
    subst hw
    exact H.fresh hB k1 hh _ _

/-- 'next' as the clone of the list of pages leaves it: its variable laid behind the clone. -/
theorem Nx.start_behind {w0 w1 : World} {N n nc : Nat} {A : Nat → Option Addr} {L C : Nat → Nat} {Z : Nat → Nat → Int} {ps : Int} {WK WV : Nat → Int} {h : Int} {F : Nat → Value}
    (hb : Below w0.heap.size w0 w1) (hN : w0.heap.size ≤ N) (hr : w1.rowIs N 24 nc F) (hF : ∀ i, i < n → F i = .slice (A i) (L i) (C i)) :
    Nx w0 (w1.alloc (.cells #[.slice (some ⟨N, 0, none⟩) n nc, .int .u64 h] 77)) w0.heap.size w1.heap.size N n nc A L C Z ps WK WV h 0 (fun _ => 0) (fun _ => 0) F := by
  refine ⟨hb.size, hN, ?_, hr.alloc _, fun p hp => (by rw [hit]; simp only [Bool.false_eq_true, if_false]; exact hF p hp), fun p _ h => absurd h (by simp [hit]), fun p q _ _ h => absurd h (by simp [hit]), hb.alloc hb.size _⟩
  exact World.rowIs_alloc w1 #[.slice (some ⟨N, 0, none⟩) n nc, .int .u64 h] 77 _ (fun i hi => by
    have : i = 0 ∨ i = 1 := by simp at hi; omega
    rcases this with rfl | rfl <;> simp [Hs])

/-- .. its variable X laid ahead of the clone. -/
theorem Nx.start_ahead {w0 w1 : World} {X N n nc : Nat} {A : Nat → Option Addr} {L C : Nat → Nat} {Z : Nat → Nat → Int} {ps : Int} {WK WV : Nat → Int} {h : Int} {F S : Nat → Value}
    (hb : Below w0.heap.size w0 w1) (hN : w0.heap.size ≤ N) (hX : w0.heap.size ≤ X) (hx : w1.rowIs X 77 2 S) (hr : w1.rowIs N 24 nc F) (hF : ∀ i, i < n → F i = .slice (A i) (L i) (C i)) :
    Nx w0 ((w1.setCell ⟨X, 0, none⟩ (.slice (some ⟨N, 0, none⟩) n nc)).setCell ⟨X, 1, none⟩ (.int .u64 h)) w0.heap.size X N n nc A L C Z ps WK WV h 0 (fun _ => 0) (fun _ => 0) F := by
  have nXN : N ≠ X := rowIs_ne hr hx (by omega)
  refine ⟨hX, hN, ((hx.set 0 _).set 1 _).congr fun i hi => ?_, (hr.setOther nXN _).setOther nXN _, fun p hp => (by rw [hit]; simp only [Bool.false_eq_true, if_false]; exact hF p hp), fun p _ h => absurd h (by simp [hit]), fun p q _ _ h => absurd h (by simp [hit]), (hb.setCell hX _).setCell hX _⟩
  have : i = 0 ∨ i = 1 := by omega
  rcases this with rfl | rfl <;> simp [Hs]

end Go.Proofs.Qxb6602268a.M
