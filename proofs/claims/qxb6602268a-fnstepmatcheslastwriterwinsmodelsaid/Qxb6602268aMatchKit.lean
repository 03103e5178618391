/- What the law on the last writer wants besides: its table, and the pages handed back. -/
import Derived.Test.Qxb6602268aLawKit
import Derived.Test.Qxb6602268aStateHash
import Derived.Maps.OwnSet
import Derived.Maps.OwnOps
namespace Go.Proofs.Qxb6602268a.M
open Go.ChangeShapes Go.WideShapes Go.ChangeAt Go.RowKit Go.Maps
set_option linter.unusedVariables false

theorem law21 : Keyed Try.prog 21 := int_keyed Try.underlying21
theorem zero21 (w : World) : (zeroValue 21).run Try.prog w = .ok (.int .i32 0) w := by kernel_rfl

/-- The map at block mb reads as the table lf. -/
structure MapIs (w : World) (mb nn : Nat) (D : DataW Unit) (lf : Int → Option Int) : Prop where
  own : w.ownsMap Try.prog 21 (plainElem Try.prog 21) mb nn D
  has : ∀ k, (Lit.int .i32 k).wf = true → Maps.has D (.int .i32 k) = (lf k).isSome
  at' : ∀ k, (Lit.int .i32 k).wf = true → ∀ v, lf k = some v → D.atKey (.int .i32 k) (.lit (.int .i32 0)) = .lit (.int .i32 v)

theorem MapIs.made (w : World) (WK WV : Nat → Int) (nw : Nat) : MapIs (w.alloc (.map #[] 0)) w.heap.size 0 (.map []) (la WK WV nw 0) :=
  ⟨World.ownsMap_made _ _ _ _, fun k _ => rfl, fun k _ v h => by cases h⟩

theorem MapIs.below {w w' : World} {mb nn : Nat} {D : DataW Unit} {lf : Int → Option Int} (h : MapIs w mb nn D lf) (hb : Below w.heap.size w w') : MapIs w' mb nn D lf := by
  refine ⟨?_, h.has, h.at'⟩
  obtain ⟨es, clock, e, r⟩ := h.own
  have hlt : mb < w.heap.size := (Array.getElem?_eq_some_iff.1 e).1
  exact ⟨es, clock, (hb.block mb hlt).trans e, r⟩

theorem MapIs.drewN {w : World} {mb nn q : Nat} {D : DataW Unit} {lf : Int → Option Int} (h : MapIs w mb nn D lf) : MapIs (w.drewN q) mb nn D lf := ⟨h.own, h.has, h.at'⟩

theorem MapIs.congr {w : World} {mb nn : Nat} {D : DataW Unit} {lf lg : Int → Option Int} (h : MapIs w mb nn D lf) (e : ∀ k, lf k = lg k) : MapIs w mb nn D lg :=
  ⟨h.own, fun k hk => by rw [← e k]; exact h.has k hk, fun k hk v hv => h.at' k hk v (by rw [e k]; exact hv)⟩

/-- a key that is there already -/
theorem MapIs.seen {w : World} {mb nn c nw : Nat} {D : DataW Unit} {WK WV : Nat → Int} (h : MapIs w mb nn D (la WK WV nw c)) {v : Int} (hv : la WK WV nw c (WK (nw - (c + 1))) = some v) : MapIs w mb nn D (la WK WV nw (c + 1)) :=
  h.congr fun k => by
    cases e : la WK WV nw c k with
    | some x => rw [la_old e]
    | none =>
      rw [la_new e]
      rw [if_neg]
      intro x
      rw [x] at hv
      rw [e] at hv
      cases hv

/-- a new key, put -/
theorem MapIs.put {w w' : World} {mb nn c nw : Nat} {D : DataW Unit} {WK WV : Nat → Int} (h : MapIs w mb nn D (la WK WV nw c)) (hv : la WK WV nw c (WK (nw - (c + 1))) = none) (hk : (Lit.int .i32 (WK (nw - (c + 1)))).wf = true)
    (ho : w'.ownsMap Try.prog 21 (plainElem Try.prog 21) mb (nn + 1) (D.put (.int .i32 (WK (nw - (c + 1)))) (.lit (.int .i32 (WV (nw - (c + 1))))))) :
    MapIs w' mb (nn + 1) (D.put (.int .i32 (WK (nw - (c + 1)))) (.lit (.int .i32 (WV (nw - (c + 1)))))) (la WK WV nw (c + 1)) := by
  have hkl := law21.key (keyOf_int_mk Try.underlying21 hk)
  have hm := h.own.isMap
  refine ⟨ho, fun k hw => ?_, fun k hw v e => ?_⟩
  · by_cases e : k = WK (nw - (c + 1))
    · subst e
      rw [has_put_same hm hkl, la_new hv, if_pos rfl]; rfl
    · have hne : (Lit.int .i32 k) ≠ (Lit.int .i32 (WK (nw - (c + 1)))) := fun x => e (by cases x; rfl)
      rw [has_put_other hne, h.has k hw]
      cases e2 : la WK WV nw c k with
      | some x => rw [la_old e2]
      | none => rw [la_new e2, if_neg (fun x => e x.symm)]
  · by_cases e1 : k = WK (nw - (c + 1))
    · subst e1
      rw [la_new hv, if_pos rfl] at e
      cases e
      exact atKey_put_same hm hkl _ _
    · have hne : (Lit.int .i32 k) ≠ (Lit.int .i32 (WK (nw - (c + 1)))) := fun x => e1 (by cases x; rfl)
      rw [atKey_put_other hne]
      refine h.at' k hw v ?_
      cases e2 : la WK WV nw c k with
      | some x => rw [la_old e2] at e; exact e
      | none => rw [la_new e2, if_neg (fun x => e1 x.symm)] at e; cases e

/-- The cells of the state handed back. -/
def Zf (rv : Bool) (Z : Nat → Nat → Int) (ps : Int) (WK WV : Nat → Int) (nw : Nat) (p i : Nat) : Int := if rv then Zs Z ps WK WV nw p i else Z p i
/-- The table when the reads do, or do not, hold. -/
def lf (rv : Bool) (WK WV : Nat → Int) (nw : Nat) (k : Int) : Option Int := if rv then la WK WV nw nw k else none

theorem Ints.congr {w : World} {a : Option Addr} {n : Nat} {Z Z' : Nat → Int} (h : Ints w a n Z) (e : ∀ i, i < n → Z i = Z' i) : Ints w a n Z' := by
  intro h0
  obtain ⟨b, o, ha, hc⟩ := h h0
  exact ⟨b, o, ha, fun i hi => by rw [hc i hi, e i hi]⟩

theorem out_pages {w0 w' : World} {a a' : Option Addr} {n c nr nw c' : Nat} {A : Nat → Option Addr} {L C : Nat → Nat} {Z : Nat → Nat → Int} {ps h h' : Int} {RK RV WK WV : Nat → Int}
    (cp : Cp w0 a n A L C Z) (ho : Out w0 w' a n c nr nw A L C Z ps h RK RV WK WV a' c' h') (hb : Below w0.heap.size w0 w') :
    (∃ (A2 : Nat → Option Addr) (C2 : Nat → Nat), Pages w' a' n A2 L C2 (Zf (rh Z ps RK RV nr) Z ps WK WV nw)) ∧ h' = if rh Z ps RK RV nr then Hs Z ps WK WV h nw else h := by
  have hp := (cp.below hb).pages
  rcases ho with ⟨e1, e2, e3, e4⟩ | ⟨e1, e2, e3, N, Gb, Gc, F, e4, hF⟩
  · have hz : ∀ p i, Z p i = Zf (rh Z ps RK RV nr) Z ps WK WV nw p i := by
      intro p i
      unfold Zf
      rcases e1 with e1 | e1
      · rw [e1]; rfl
      · rw [e1]; split <;> rfl
    refine ⟨⟨A, C, by rw [e2]; exact hp.top, fun r hr => (hp.row r hr).congr fun i _ => hz r i⟩, ?_⟩
    rw [e4]
    rcases e1 with e1 | e1
    · rw [e1]; rfl
    · rw [e1]; split <;> rfl
  · have hz : ∀ p i, Zf (rh Z ps RK RV nr) Z ps WK WV nw p i = Zs Z ps WK WV nw p i := by
      intro p i
      unfold Zf
      rw [e1]; rfl
    refine ⟨⟨fun p => if hit ps WK nw p then some ⟨Gb p, 0, none⟩ else A p, fun p => if hit ps WK nw p then Gc p else C p, fun _ => ⟨N, 0, e4, fun r hr => ?_⟩, fun r hr => ?_⟩, by rw [e3, e1]; rfl⟩
    · rw [Nat.zero_add, hF.nn.cell (by have := hF.le; omega), hF.f r hr]
      cases hit ps WK nw r <;> rfl
    · cases hh : hit ps WK nw r
      · simp only [Bool.false_eq_true, if_false]
        exact (hp.row r hr).congr fun i _ => by rw [hz, Zs_untouched hh]
      · simp only [if_true]
        obtain ⟨g1, g2, G, g3, g4⟩ := hF.g r hr hh
        intro h0
        exact ⟨Gb r, 0, rfl, fun i hi => by rw [Nat.zero_add, g3.cell (by omega), g4 i hi, hz]⟩

theorem want_is {rv : Bool} {Z : Nat → Nat → Int} {ps : Int} {WK WV : Nat → Int} {nw : Nat} (hps : 1 ≤ ps) (hk : ∀ j, j < nw → 0 ≤ WK j ∧ WK j ≤ 2147483647) (p i : Nat) :
    Zf rv Z ps WK WV nw p i = if isKey ps p i then (lf rv WK WV nw (keyAt ps p i)).getD (Z p i) else Z p i := by
  unfold Zf lf
  cases rv
  · cases isKey ps p i <;> rfl
  · cases h : isKey ps p i
    · exact Zs_other hps hk h nw (Nat.le_refl _)
    · exact Zs_key hps hk h

theorem hash_is {rv : Bool} {Z : Nat → Nat → Int} {ps h : Int} {WK WV : Nat → Int} {n nw : Nat} {L : Nat → Nat} (hps : 1 ≤ ps) (hh : U h) (hk : ∀ i, i < nw → kin n L ps (WK i) = true ∧ WK i ≤ 2147483647) :
    xr (if rv then Hs Z ps WK WV h nw else h) (SH fpI ps L (Zf rv Z ps WK WV nw) n) = xr h (SH fpI ps L Z n) := by
  cases rv
  · rfl
  · exact (hash_keeps hps hh nw hk).2

end Go.Proofs.Qxb6602268a.M
