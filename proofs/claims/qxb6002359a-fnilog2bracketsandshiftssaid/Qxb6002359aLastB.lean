/- A region that draws its order: what S says need not hold behind its last operation, for which all others are waited. -/
import Derived.Test.Qxb6002359aBig3
import Derived.OrdersHeld
import Derived.Deep.RegionHeld3
import Derived.StillTail
namespace Go.Proofs.Qxb6002359a.B
open Go
set_option linter.unusedVariables false

section
variable {P : Program} {ops : Array Oper} {Q : Exit → Act → World → Prop} {md : Region.Mode} {S : World → Prop} {last : Nat}

/-- Whatever order is picked from here on; S holds behind every operation but the last. -/
def wpAnyE (P : Program) (md : Region.Mode) (ops : Array Oper) (Q : Exit → Act → World → Prop) (S : World → Prop) (last : Nat) : Nat → Array Bool → Act → World → Prop
  | 0, listed, a, w => Region.ready md ops listed = [] ∧ Q .normal a w
  | fuel + 1, listed, a, w =>
    (Region.ready md ops listed = [] → Q .normal a w) ∧
    ∀ i ∈ Region.ready md ops listed, wpOp P ops Q i (fun a' w' => (i = last ∨ S w') ∧ wpAnyE P md ops Q S last fuel (listed.setIfInBounds i true) a' w') a w

theorem wpAny_of_E : ∀ (fuel : Nat) (listed : Array Bool) (a : Act) (w : World), wpAnyE P md ops Q S last fuel listed a w → wpAny P md ops Q fuel listed a w
  | 0, _, _, _, h => h
  | fuel + 1, _, _, _, h => ⟨h.1, fun i hi => wpOp_mono (fun a' w' h' => wpAny_of_E fuel _ a' w' h'.2) (h.2 i hi)⟩

/-- what has come up already, an operation that is ready has waited for -/
theorem ready_waited {j i : Nat} {listed : Array Bool} (hj : j ∈ Region.ready md ops listed) (hw : Region.waitsFor md ops j i = true) (hi : i ∈ Region.ready md ops listed) : False := by
  obtain ⟨_, oj, hoj, hall⟩ := mem_ready.1 hj
  obtain ⟨oj', hoj', e, he, hb, rfl⟩ := Region.waitsFor_spec hw
  rw [hoj] at hoj'
  cases hoj'
  have h1 := hall e he hb
  have h0 := (mem_ready.1 hi).1
  rcases Nat.lt_or_ge e.on listed.size with h' | h'
  · simp [h'] at h0 h1; rw [h0] at h1; cases h1
  · simp [Array.getElem?_eq_none h'] at h1

theorem wpAnyE_first {i : Nat} {oi : Oper} {v : Value} (hi : ops[i]? = some oi) (hsel : ∀ (j : Nat) (o : Oper) cs b, ops[j]? = some o → o.op ≠ .select cs b)
    (hQ : ∀ c a w, Q (.panic c) (a.put oi.dst v) w → Q (.panic c) a w) (hlast : Region.waitsFor md ops last i = true) :
    ∀ (fuel : Nat) (listed : Array Bool) (a : Act) (w : World),
      (∀ j oj, ops[j]? = some oj → j ≠ i → listed.getD j true = false → (∀ e ∈ oj.after, Region.binds md e = true → e.on ≠ i) → oi.apart ops oj = true) →
      i ∈ Region.ready md ops listed → YieldsIf P ops S oi v a → S w →
      wpAnyE P md ops Q S last fuel (listed.setIfInBounds i true) (a.put oi.dst v) w → wpAnyE P md ops Q S last (fuel + 1) listed a w
  | 0, listed, a, w, _, hr, hy, hS, H => by
    refine ⟨fun h => (by rw [h] at hr; cases hr), fun j hj => ?_⟩
    by_cases hji : j = i
    · subst hji; exact hy.wpOp hi hS ⟨.inr hS, H⟩
    · have := ready_mono hj hji
      rw [H.1] at this
      cases this
  | fuel + 1, listed, a, w, hfree, hr, hy, hS, H => by
    refine ⟨fun h => (by rw [h] at hr; cases hr), fun j hj => ?_⟩
    by_cases hji : j = i
    · subst hji; exact hy.wpOp hi hS ⟨.inr hS, H⟩
    · have hjl : j ≠ last := fun e => ready_waited hj (by rw [e]; exact hlast) hr
      have h1 := H.2 j (ready_mono hj hji)
      obtain ⟨hjun, oj, hoj, hall⟩ := mem_ready.1 hj
      have hnot : ∀ e ∈ oj.after, Region.binds md e = true → e.on ≠ i := fun e he hb heq => by
        have h1 := hall e he hb
        have h0 := (mem_ready.1 hr).1
        rw [heq] at h1
        rcases Nat.lt_or_ge i listed.size with h' | h'
        · simp [h'] at h0 h1; rw [h0] at h1; cases h1
        · simp [Array.getElem?_eq_none h'] at h1
      have h2 := wpOp_putIf hoj (hfree j oj hoj hji hjun hnot) (fun cs b => hsel i oi cs b hi) (fun cs b => hsel j oj cs b hoj) hQ hy h1
      refine wpOp_mono (fun a' w' h3 => ?_) h2
      have hS' : S w' := h3.2.1.resolve_left hjl
      refine ⟨.inr hS', wpAnyE_first hi hsel hQ hlast fuel (listed.setIfInBounds j true) a' w' (fun k ok hk hki hun hno => hfree k ok hk hki ?_ hno) (ready_mono hr (Ne.symm hji)) h3.1 hS' ?_⟩
      · by_cases hjk : j = k
        · subst hjk; exact hjun
        · rw [getD_set_ne true hjk] at hun; exact hun
      · rw [Array.setIfInBounds_comm _ _ hji]
        exact h3.2.2

/-- Take number i first; d: the slot that it writes. -/
theorem wpAnyE_take {i : Nat} {oi : Oper} {v : Value} {fuel : Nat} {listed : Array Bool} {a : Act} {w : World} (d : Option Tmp) (hi : ops[i]? = some oi) (hd : oi.dst = d) (hlast : Region.waitsFor md ops last i = true)
    (hs : Region.noSelect ops = true) (hf : Region.free md ops listed i = true) (hr : (Region.ready md ops listed).contains i = true)
    (hQ : ∀ c a w, Q (.panic c) (a.put d v) w → Q (.panic c) a w) (hy : YieldsIf P ops S oi v a) (hS : S w)
    (h : wpAnyE P md ops Q S last fuel (listed.setIfInBounds i true) (a.put d v) w) : wpAnyE P md ops Q S last (fuel + 1) listed a w := by
  subst hd
  exact wpAnyE_first hi (Region.noSelect_spec hs) hQ hlast fuel listed a w (Region.free_spec hi hf) (by simpa using hr) hy hS h

/-- One alone may come up. -/
theorem wpAnyE_one {i : Nat} {oi : Oper} {fuel : Nat} {listed : Array Bool} {a : Act} {w : World} (ho : ops[i]? = some oi) (hr : Region.ready md ops listed = [i])
    (h : ∀ K' : Act → World → Prop, Shut (∀ a w, (i = last ∨ S w) → wpAnyE P md ops Q S last fuel (listed.setIfInBounds i true) a w → K' a w) → if Region.wanted oi (yielded ops a.tmps) = true then Oper.wp P oi a w K' Q else K' (a.put oi.dst undef) w) :
    wpAnyE P md ops Q S last (fuel + 1) listed a w := by
  refine ⟨fun h0 => (by rw [hr] at h0; cases h0), fun j hj => ?_⟩
  rw [hr] at hj
  simp at hj
  subst hj
  exact wpOp_step ho (fun K' hK => h K' (fun a w hS hW => hK a w ⟨hS, hW⟩))

theorem wpAnyE_done {listed : Array Bool} {a : Act} {w : World} (hr : Region.ready md ops listed = []) (h : Q .normal a w) : ∀ fuel, wpAnyE P md ops Q S last fuel listed a w
  | 0 => ⟨hr, h⟩
  | _ + 1 => ⟨fun _ => h, by rw [hr]; simp⟩

theorem wp_region_E {id : Nat} {a : Act} {w : World} (last : Nat) (S : World → Prop) (hm : P.follows .mixedOrders = true) (h : wpAnyE P .any ops Q S last ops.size (Array.replicate ops.size false) a w.drew) : (Code.region id ops true).wp P Q a w :=
  wp_region_any hm (wpAny_of_E _ _ _ _ h)
end
/-- The number of the first region of a statement. -/
def headRegion : Code → Option Nat
  | .region k _ _ => some k
  | .seq a _ => headRegion a
  | .block _ c => headRegion c
  | _ => none

/-- What is left of a list of statements from the one whose first region is number k on. -/
def restAt (k : Nat) : Code → Option Code
  | .seq a b => if headRegion a = some k then some (.seq a b) else restAt k b
  | c => if headRegion c = some k then some c else none


end Go.Proofs.Qxb6002359a.B
