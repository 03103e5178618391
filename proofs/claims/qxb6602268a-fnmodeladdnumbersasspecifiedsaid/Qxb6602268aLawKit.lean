/- What both laws over step share. -/
import Derived.Test.Qxb6602268aCopyLaw
namespace Go.Proofs.Qxb6602268a.M
open Go.ChangeShapes Go.WideShapes Go.ChangeAt Go.RowKit
set_option linter.unusedVariables false

/-- The number of the first region of a statement. -/
def headRegion : Code → Option Nat
  | .region k _ _ => some k
  | .seq a _ => headRegion a
  | .block _ c => headRegion c
  | _ => none

/-- What is left of a list of statements from the one whose first region is number k on. -/
def restAt (k : Nat) : Code → Option Code
  | .seq a b => if headRegion a = some k then some (.seq a b) else restAt k b
  | c => if headRegion c = some k then some c else none

/-- What is known of the arguments where both laws begin in earnest: the copies lie in the world at hand. -/
structure Here (w : World) (ps : Int) (a a1 a2 a3 a4 : Option Addr) (n n1 c1 n2 c2 n3 c3 n4 c4 : Nat) (A : Nat → Option Addr) (L C : Nat → Nat) (Z : Nat → Nat → Int) (RK RV WK WV : Nat → Int) : Prop where
  hp : Pages w a n A L C Z
  i1 : Ints w a1 n1 RK
  i2 : Ints w a2 n2 RV
  i3 : Ints w a3 n3 WK
  i4 : Ints w a4 n4 WV
  k1 : n1 ≤ c1
  k2 : n2 ≤ c2
  k3 : n3 ≤ c3
  k4 : n4 ≤ c4
  hr : ∀ i, i < n1 → RK i ≤ 2147483647
  hw : ∀ i, i < n3 → WK i ≤ 2147483647
  ps2 : ps ≤ 2147483647
  dom : Dom ps n L n1 n2 n3 n4 RK WK

theorem Here.below {w w' : World} {ps : Int} {a a1 a2 a3 a4 : Option Addr} {n n1 c1 n2 c2 n3 c3 n4 c4 : Nat} {A : Nat → Option Addr} {L C : Nat → Nat} {Z : Nat → Nat → Int} {RK RV WK WV : Nat → Int}
    (H : Here w ps a a1 a2 a3 a4 n n1 c1 n2 c2 n3 c3 n4 c4 A L C Z RK RV WK WV) (hb : Below w.heap.size w w') : Here w' ps a a1 a2 a3 a4 n n1 c1 n2 c2 n3 c3 n4 c4 A L C Z RK RV WK WV :=
  ⟨H.hp.below hb, H.i1.below hb, H.i2.below hb, H.i3.below hb, H.i4.below hb, H.k1, H.k2, H.k3, H.k4, H.hr, H.hw, H.ps2, H.dom⟩

theorem Ints.upto {w : World} {a : Option Addr} {n m : Nat} {Z : Nat → Int} (h : Ints w a n Z) (hm : m ≤ n) : Ints w a m Z := by
  intro h0
  obtain ⟨b, o, ha, hc⟩ := h (by omega)
  exact ⟨b, o, ha, fun i hi => hc i (by omega)⟩

theorem elem24 : Try.prog.elem 24 = 21 := by kernel_rfl
theorem und24 : Try.prog.underlying 24 = some (.slice (Try.prog.elem 24)) := by rw [elem24]; exact Try.underlying24

theorem run_upto (a : Option Addr) (n c m : Nat) (h : m ≤ c) (w : World) : (Instr.slice 24 (.slice a n c) none (some (.int .i64 (m : Int))) none).run Try.prog w = .ok (.slice a m c) w := by
  obtain ⟨i, hi, _, hs, _⟩ := info_parts info21
  have h2 : (sizeOf (Try.prog.elem 24)).run Try.prog w = .ok 1 w := by
    rw [elem24]
    simp [sizeOf, typeInfo, hi, hs]
  rw [run_slice_h (P := Try.prog) w 24 a n c und24 .i64 (m : Int) (by omega) (by omega), h2]
  have h3 : sliced a 0 (m : Int).toNat c 1 = .slice a m c := by
    unfold sliced
    cases a with
    | none => simp
    | some x => simp [Addr.add]
  show Result.ok (sliced a 0 (m : Int).toNat c 1) w = _
  rw [h3]

theorem info4 : (Try.prog.info? 4).map (fun i => (i.zero, i.size, i.bytes)) = some (some (.bool false), 1, 1) := by kernel_rfl

theorem eql38_other {wx : World} {z y t1 t2 : Nat} {n1 n2 : Nat} {f1 f2 : Nat → Value} (hne : z ≠ y) (hz : wx.rowIs z t1 n1 f1) (hy : wx.rowIs y t2 n2 f2) :
    (binOp .eql 38 (.pointer (some ⟨z, 0, none⟩)) (.pointer (some ⟨y, 0, none⟩))).run Try.prog wx = .ok (.bool false) wx := by
  obtain ⟨i, hi, hz0, hz1, hz2⟩ := info_parts info24
  obtain ⟨c1, e1, _⟩ := hz
  obtain ⟨c2, e2, _⟩ := hy
  exact run_eql_ptr_other wx Try.underlying38 hi (by omega) (fun e => hne (by cases e; rfl)) e1 e2

/-- Page p handed back: a slice of the given length; not empty, it leads elsewhere than the given page exactly if hv p. -/
def PageIs (w : World) (v : Value) (a : Option Addr) (l : Nat) (hv : Bool) : Prop :=
  ∃ (an : Option Addr) (cn : Nat), v = .slice an l cn ∧ (0 < l → ∃ z y, an = some ⟨z, 0, none⟩ ∧ a = some ⟨y, 0, none⟩ ∧ (hv = false → z = y) ∧ (hv = true → z ≠ y ∧ (∃ k f, w.rowIs z 21 k f) ∧ ∃ k f, w.rowIs y 21 k f))

theorem pages_beside {w0 w' : World} {a a' : Option Addr} {n c nr nw c' : Nat} {A : Nat → Option Addr} {L C : Nat → Nat} {Z : Nat → Nat → Int} {ps h h' : Int} {RK RV WK WV : Nat → Int}
    (cp : Cp w0 a n A L C Z) (ho : Out w0 w' a n c nr nw A L C Z ps h RK RV WK WV a' c' h') (hb : Below w0.heap.size w0 w') (h0 : 0 < n) :
    ∃ (N cb nn : Nat) (F : Nat → Value), a' = some ⟨N, 0, none⟩ ∧ a = some ⟨cb, 0, none⟩ ∧ n ≤ nn ∧ w'.rowIs N 24 nn F ∧ w'.rowIs cb 24 n (fun r => .slice (A r) (L r) (C r)) ∧
      (rh Z ps RK RV nr = true → 0 < nw → N ≠ cb) ∧ ∀ p, p < n → PageIs w' (F p) (A p) (L p) (rh Z ps RK RV nr && hit ps WK nw p) := by
  obtain ⟨cb, ea, htop⟩ := cp.top h0
  have htop' := rowIs_below htop hb htop.lt
  have hrows : ∀ r, r < n → 0 < L r → ∃ y, A r = some ⟨y, 0, none⟩ ∧ y < w0.heap.size ∧ w'.rowIs y 21 (L r) (fun i => .int .i32 (Z r i)) := by
    intro r hr hl
    obtain ⟨y, e, hy⟩ := cp.row r hr hl
    exact ⟨y, e, hy.lt, rowIs_below hy hb hy.lt⟩
  rcases ho with ⟨e1, e2, e3, e4⟩ | ⟨e1, e2, e3, N, Gb, Gc, F, e4, hF⟩
  · refine ⟨cb, cb, n, _, e2.trans ea, ea, Nat.le_refl _, htop', htop', ?_, fun p hp => ?_⟩
    · intro h1 h2
      rcases e1 with e1 | e1
      · rw [e1] at h1; cases h1
      · omega
    · have hv : (rh Z ps RK RV nr && hit ps WK nw p) = false := by
        rcases e1 with e1 | e1
        · rw [e1]; rfl
        · rw [e1]; simp [hit]
      refine ⟨A p, C p, rfl, fun hl => ?_⟩
      obtain ⟨y, e, _, _⟩ := hrows p hp hl
      exact ⟨y, y, e, e, fun _ => rfl, fun h => by rw [hv] at h; cases h⟩
  · have nN : N ≠ cb := by have := htop.lt; have := hF.bN; omega
    refine ⟨N, cb, c', F, e4, ea, hF.le, hF.nn, htop', fun _ _ => nN, fun p hp => ?_⟩
    have hf := hF.f p hp
    rw [e1, Bool.true_and]
    cases hh : hit ps WK nw p
    · rw [hh] at hf
      refine ⟨A p, C p, by simpa using hf, fun hl => ?_⟩
      obtain ⟨y, e, _, _⟩ := hrows p hp hl
      exact ⟨y, y, e, e, fun _ => rfl, fun h => by cases h⟩
    · rw [hh] at hf
      obtain ⟨g1, g2, G, g3, g4⟩ := hF.g p hp hh
      refine ⟨some ⟨Gb p, 0, none⟩, Gc p, by simpa using hf, fun hl => ?_⟩
      obtain ⟨y, e, hy, hyr⟩ := hrows p hp hl
      exact ⟨Gb p, y, rfl, e, (fun h => by cases h), fun _ => ⟨by omega, ⟨_, _, g3⟩, _, _, hyr⟩⟩

theorem PageIs.below {w w' : World} {v : Value} {a : Option Addr} {l : Nat} {hv : Bool} (h : PageIs w v a l hv) (hb : Below w.heap.size w w') : PageIs w' v a l hv := by
  obtain ⟨an, cn, e, h⟩ := h
  refine ⟨an, cn, e, fun hl => ?_⟩
  obtain ⟨z, y, e1, e2, e3, e4⟩ := h hl
  refine ⟨z, y, e1, e2, e3, fun ht => ?_⟩
  obtain ⟨k1, ⟨k, f, k2⟩, k', f', k3⟩ := e4 ht
  exact ⟨k1, ⟨k, f, rowIs_below k2 hb k2.lt⟩, k', f', rowIs_below k3 hb k3.lt⟩

end Go.Proofs.Qxb6602268a.M
