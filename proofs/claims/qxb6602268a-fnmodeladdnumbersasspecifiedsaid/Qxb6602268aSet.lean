/- The walk of (*model).set: the page that it writes is fresh, or shared with the state that it came from. -/
import Derived.Test.Qxb6602268aHolds
import Derived.Deep.RegionHeld3
import Derived.Deep.DeepCutAuto
import Derived.LaidEqlPtr
import Derived.StillTailTactics
namespace Go.Proofs.Qxb6602268a.M
open Go.ChangeShapes Go.WideShapes Go.ChangeAt Go.RowKit
set_option linter.unusedVariables false

theorem eql39_other {wx : World} {z y t1 t2 : Nat} {n1 n2 : Nat} {f1 f2 : Nat → Value} (hne : z ≠ y) (hz : wx.rowIs z t1 n1 f1) (hy : wx.rowIs y t2 n2 f2) :
    (binOp .eql 39 (.pointer (some ⟨z, 0, none⟩)) (.pointer (some ⟨y, 0, none⟩))).run Try.prog wx = .ok (.bool false) wx := by
  obtain ⟨i, hi, hz0, hz1, hz2⟩ := info_parts info21
  obtain ⟨c1, e1, _⟩ := hz
  obtain ⟨c2, e2, _⟩ := hy
  exact run_eql_ptr_other wx Try.underlying39 hi (by omega) (fun e => hne (by cases e; rfl)) e1 e2

theorem eql39_same (wx : World) (a : Addr) :
    (binOp .eql 39 (.pointer (some a)) (.pointer (some a))).run Try.prog wx = .ok (.bool true) wx := by
  obtain ⟨i, hi, hz0, hz1, hz2⟩ := info_parts info21
  exact run_eql_ptr_same wx a Try.underlying39 hi

theorem region_tail {P : Program} {id : Nat} {Q : Exit → Act → World → Prop} {a : Act} {w : World} {l : List Oper} (n : Nat) (hm : P.follows .mixedOrders = true) (hB : Region.lexTailB .any l.toArray n = true)
    (h : wpStill P l.toArray w.drew (fun a' => wpList P l.toArray Q (l.drop n) a' w.drew) (l.take n) a) : (Code.region id l.toArray true).wp P Q a w :=
  wp_region_still_tail n hm hB h

theorem rowIs_ne {w : World} {b c s t n m : Nat} {f g : Nat → Value} (h : w.rowIs b s n f) (k : w.rowIs c t m g) (hst : s ≠ t) : b ≠ c := by
  intro e
  subst e
  obtain ⟨x, hx, _⟩ := h
  obtain ⟨y, hy, _⟩ := k
  rw [hx] at hy
  cases hy
  exact hst rfl

set_option maxRecDepth 100000 in
set_option maxHeartbeats 2000000 in
theorem set_fresh (mb X N cb y z n nc cc l cp zc : Nat) (ps h0 hh k v x : Int) (S : Nat → Value) (F D : Nat → Value) (G : Nat → Value) (Zp : Nat → Int) (w : World)
    (hps : 1 ≤ ps) (hps2 : ps ≤ 2147483647) (hk0 : 0 ≤ k) (hk2 : k ≤ 2147483647) (hn : n ≤ 131072) (hnc : n ≤ nc) (hl : l ≤ 131072) (hlz : l ≤ zc) (hp : (k / ps).toNat < n) (hi : (k % ps).toNat < l)
    (hm : w.cell? ⟨mb, 3, none⟩ = some (.int .i32 ps))
    (hX : w.rowIs X 77 2 S) (hS0 : S 0 = .slice (some ⟨N, 0, none⟩) n nc) (hS1 : S 1 = .int .u64 hh)
    (hN : w.rowIs N 24 nc F) (hF : F (k / ps).toNat = .slice (some ⟨z, 0, none⟩) l zc)
    (hz : w.rowIs z 21 zc G) (hG : G (k % ps).toNat = .int .i32 x)
    (hC : w.rowIs cb 24 n D) (hD : D (k / ps).toNat = .slice (some ⟨y, 0, none⟩) l cp)
    (hy : w.rowIs y 21 l (fun i => .int .i32 (Zp i))) (hne : z ≠ y) :
    Calls Try.prog 47 #[.pointer (some ⟨mb, 0, none⟩), .pointer (some ⟨X, 0, none⟩), .agg #[.slice (some ⟨cb, 0, none⟩) n cc, .int .u64 h0], .int .i32 k, .int .i32 v] w fun e w' => e = .returned (.tuple #[]) ∧
      ∃ nq, w' = (((w.alloc (.cells #[.slice (some ⟨cb, 0, none⟩) n cc, .int .u64 h0] 77)).setCell ⟨X, 1, none⟩ (.int .u64 (bits .xor .u64 hh (bits .xor .u64 (fpI k x) (fpI k v))))).setCell ⟨z, (k % ps).toNat, none⟩ (.int .i32 v)).drewN nq := by
  obtain ⟨d0, d1⟩ := div_bd k ps hps hk0
  obtain ⟨m0, m1⟩ := mod_bd k ps hps
  have d2 : k / ps < n := by omega
  have m2 : k % ps < (l : Int) := by omega
  have s1 := lt_of_cell hm
  have s2 := hX.lt
  have s3 := hN.lt
  have s4 := hz.lt
  have s5 := hC.lt
  have s6 := hy.lt
  simp only at s1
  have hX0 := hX.cell (i := 0) (by omega)
  have hX1 := hX.cell (i := 1) (by omega)
  rw [hS0] at hX0
  rw [hS1] at hX1
  have fX1 := hX.frozen 1
  have hNc := hN.cell (i := (k / ps).toNat) (by omega)
  rw [hF] at hNc
  have hzc := hz.cell (i := (k % ps).toNat) (by omega)
  rw [hG] at hzc
  have fz := hz.frozen (k % ps).toNat
  have hCc := hC.cell (i := (k / ps).toNat) (by omega)
  rw [hD] at hCc
  have heq : ∀ nq, (binOp .eql 39 (.pointer (some ⟨z, 0, none⟩)) (.pointer (some ⟨y, 0, none⟩))).run Try.prog ((w.alloc (.cells #[.slice (some ⟨cb, 0, none⟩) n cc, .int .u64 h0] 77)).drewN nq) = .ok (.bool false) ((w.alloc (.cells #[.slice (some ⟨cb, 0, none⟩) n cc, .int .u64 h0] 77)).drewN nq) :=
    fun nq => eql39_other hne (show World.rowIs _ z 21 zc G from hz.alloc _) (show World.rowIs _ y 21 l _ from hy.alloc _)
  have nXN : X ≠ N := rowIs_ne hX hN (by omega)
  have nXz : X ≠ z := rowIs_ne hX hz (by omega)
  have nNX : N ≠ X := Ne.symm nXN
  have nzX : z ≠ X := Ne.symm nXz
  clear hX hS0 hS1 hN hF hz hG hC hD hy
  have l0 : 0 < l := by omega
  have l1 : (0 : Int) < (l : Int) := by omega
  go_enter Try.func47, Try.ntmps47
  go_wp2
  go_quiet (fail)
  go_wp2
  go_quiet (fail)
  go_wp2
  clear heq
  refine region_tail 23 (by kernel_rfl) (by kernel_rfl) ?_
  simp only [List.take_succ_cons, List.take_zero, List.drop_succ_cons, List.drop_zero, World.drewN_drewN, World.drew_drewN]
  repeat (first | still_step | still_call (fp_any _ _ _))
  refine wpStill_nil ?_
  go_wp2
  go_end0
  exact ⟨rfl, _, rfl⟩

set_option maxRecDepth 100000 in
set_option maxHeartbeats 2000000 in
theorem set_shared (mb X N cb y n nc cc l cp : Nat) (ps h0 hh k v : Int) (S : Nat → Value) (F D : Nat → Value) (Zp : Nat → Int) (w : World)
    (hps : 1 ≤ ps) (hps2 : ps ≤ 2147483647) (hk0 : 0 ≤ k) (hk2 : k ≤ 2147483647) (hn : n ≤ 131072) (hnc : n ≤ nc) (hl : l ≤ 131072) (hp : (k / ps).toNat < n) (hi : (k % ps).toNat < l)
    (hm : w.cell? ⟨mb, 3, none⟩ = some (.int .i32 ps))
    (hX : w.rowIs X 77 2 S) (hS0 : S 0 = .slice (some ⟨N, 0, none⟩) n nc) (hS1 : S 1 = .int .u64 hh)
    (hN : w.rowIs N 24 nc F) (hF : F (k / ps).toNat = .slice (some ⟨y, 0, none⟩) l cp) (nNC : N ≠ cb)
    (hC : w.rowIs cb 24 n D) (hD : D (k / ps).toNat = .slice (some ⟨y, 0, none⟩) l cp)
    (hy : w.rowIs y 21 l (fun i => .int .i32 (Zp i))) :
    Calls Try.prog 47 #[.pointer (some ⟨mb, 0, none⟩), .pointer (some ⟨X, 0, none⟩), .agg #[.slice (some ⟨cb, 0, none⟩) n cc, .int .u64 h0], .int .i32 k, .int .i32 v] w fun e w' => e = .returned (.tuple #[]) ∧
      ∃ (w1 : World) (g cap nq : Nat) (f : Nat → Value), w.heap.size ≤ g ∧ w1.rowIs g 21 cap f ∧ l ≤ cap ∧ (∀ i, i < l → f i = .int .i32 (Zp i)) ∧ Below w.heap.size w w1 ∧
      w' = (((w1.setCell ⟨N, (k / ps).toNat, none⟩ (.slice (some ⟨g, 0, none⟩) l cap)).setCell ⟨X, 1, none⟩ (.int .u64 (bits .xor .u64 hh (bits .xor .u64 (fpI k (Zp (k % ps).toNat)) (fpI k v))))).setCell ⟨g, (k % ps).toNat, none⟩ (.int .i32 v)).drewN nq := by
  obtain ⟨d0, d1⟩ := div_bd k ps hps hk0
  obtain ⟨m0, m1⟩ := mod_bd k ps hps
  have d2 : k / ps < n := by omega
  have m2 : k % ps < (l : Int) := by omega
  have s1 := lt_of_cell hm
  have s2 := hX.lt
  have s3 := hN.lt
  have s5 := hC.lt
  have s6 := hy.lt
  simp only at s1
  have hX0 := hX.cell (i := 0) (by omega)
  have hX1 := hX.cell (i := 1) (by omega)
  rw [hS0] at hX0
  rw [hS1] at hX1
  have fX1 := hX.frozen 1
  have hNc := hN.cell (i := (k / ps).toNat) (by omega)
  rw [hF] at hNc
  have fN := hN.frozen (k / ps).toNat
  have hCc := hC.cell (i := (k / ps).toNat) (by omega)
  rw [hD] at hCc
  have heq := fun wx => eql39_same wx ⟨y, 0, none⟩
  have nXN : X ≠ N := rowIs_ne hX hN (by omega)
  have nNX : N ≠ X := Ne.symm nXN
  have nXC : X ≠ cb := rowIs_ne hX hC (by omega)
  have nCN : cb ≠ N := Ne.symm nNC
  have nNw : N ≠ w.heap.size := by omega
  have HCL : Hid (∀ nq, Calls Try.prog 50 #[.slice (some ⟨y, 0, none⟩) l cp] ((w.alloc (.cells #[.slice (some ⟨cb, 0, none⟩) n cc, .int .u64 h0] 77)).drewN nq) (fun e w' => ∃ g cap f, e = .returned (.slice (some ⟨g, 0, none⟩) l cap) ∧
      w'.cell? ⟨X, 0, none⟩ = some (.slice (some ⟨N, 0, none⟩) n nc) ∧ w'.cell? ⟨w.heap.size, 0, none⟩ = some (.slice (some ⟨cb, 0, none⟩) n cc) ∧ w'.cell? ⟨cb, (k / ps).toNat, none⟩ = some (.slice (some ⟨y, 0, none⟩) l cp) ∧
      w'.cell? ⟨X, 1, none⟩ = some (.int .u64 hh) ∧ w'.frozen? ⟨X, 1, none⟩ = false ∧ w'.cell? ⟨N, (k / ps).toNat, none⟩ = some (.slice (some ⟨y, 0, none⟩) l cp) ∧ w'.frozen? ⟨N, (k / ps).toNat, none⟩ = false ∧
      Hid (w.heap.size < g ∧ w'.rowIs g 21 cap f ∧ l ≤ cap ∧ (∀ i, i < l → f i = .int .i32 (Zp i)) ∧ Below w.heap.size w w'))) := by
    intro nq
    refine (clone50_any y 0 l cp Zp _ (fun i hi => ?_) (by omega) hl).mono ?_
    · rw [Nat.zero_add]; exact (show World.rowIs _ y 21 l _ from hy.alloc _).cell hi
    · rintro e w' ⟨g, cap, f, he, hg, hr, hcap, hf, hb⟩
      have hb1 : Below (w.heap.size + 1) (w.alloc (.cells #[.slice (some ⟨cb, 0, none⟩) n cc, .int .u64 h0] 77)) w' := by
        have e1 : ((w.alloc (.cells #[.slice (some ⟨cb, 0, none⟩) n cc, .int .u64 h0] 77)).drewN nq).heap.size = w.heap.size + 1 := by simp
        rw [e1] at hb
        exact ⟨hb.os, hb.tape, hb.output, hb.size, hb.block⟩
      have hb2 : Below w.heap.size w w' := ((Below.refl _ _).alloc (Nat.le_refl _) _).trans (hb1.mono (by omega))
      refine ⟨g, cap, f, he, (hb2.cell s2).trans hX0, (hb1.cell (by simp)).trans (by simp), (hb2.cell s5).trans hCc, (hb2.cell s2).trans hX1, (hb2.frozen s2).trans fX1, (hb2.cell s3).trans hNc, (hb2.frozen s3).trans fN, ?_⟩
      exact ⟨by simp at hg; omega, hr, hcap, hf, hb2⟩
  clear hX hS0 hS1 hN hF hC hD hy
  have l0 : 0 < l := by omega
  have l1 : (0 : Int) < (l : Int) := by omega
  go_enter Try.func47, Try.ntmps47
  go_wp2
  go_quiet (fail)
  go_wp2
  go_quiet (fail)
  go_wp2
  clear heq
  go_region_held3 (fun w' => w'.cell? ⟨X, 0, none⟩ = some (.slice (some ⟨N, 0, none⟩) n nc) ∧ w'.cell? ⟨w.heap.size, 0, none⟩ = some (.slice (some ⟨cb, 0, none⟩) n cc) ∧ w'.cell? ⟨cb, (k / ps).toNat, none⟩ = some (.slice (some ⟨y, 0, none⟩) l cp)) (go_keep) (first | (go_at_call 50; refine (HCL.out _).mono ?_; rintro e w1 ⟨g, cap, f, rfl, c1, c2, c3, c4, c5, c6, c7, HH⟩))
  obtain ⟨hg, hr, hcap, hf, hb⟩ := HH.out
  have cg := hr.cell (i := (k % ps).toNat) (by omega)
  rw [hf _ hi] at cg
  have fg := hr.frozen (k % ps).toNat
  have ngN : g ≠ N := by omega
  have nNg : N ≠ g := by omega
  have ngX : g ≠ X := by omega
  have nXg : X ≠ g := by omega
  have HP : Hid (w.heap.size ≤ g ∧ w1.rowIs g 21 cap f ∧ l ≤ cap ∧ (∀ i, i < l → f i = .int .i32 (Zp i)) ∧ Below w.heap.size w w1) := ⟨by omega, hr, hcap, hf, hb⟩
  clear hg hr hf hb HH HCL c2 c3 hX0 hX1 fX1 hNc fN hCc
  go_wp2
  refine region_tail 23 (by kernel_rfl) (by kernel_rfl) ?_
  simp only [List.take_succ_cons, List.take_zero, List.drop_succ_cons, List.drop_zero]
  repeat (first | still_step | still_call (fp_any _ _ _))
  refine wpStill_nil ?_
  go_wp2
  go_end0
  obtain ⟨hg, hr, hcap, hf, hb⟩ := HP.out
  exact ⟨rfl, w1, g, cap, _, f, hg, hr, hcap, hf, hb, rfl⟩

end Go.Proofs.Qxb6602268a.M
