/- Maps as tables: block b is a map that reads as the function f, and holds s entries. Any element type; keys by 'mk'. -/
import Derived.Test.Qxb6602268aMem
import Derived.Maps.RangeWalk
import Derived.Maps.OwnOps
import Derived.Maps.OwnSet
namespace Go.Proofs.Qxb6602268a.M
open Go.ChangeShapes Go.WideShapes Go.ChangeAt Go.RowKit Go.Maps
set_option linter.unusedVariables false

/-- An element as it stands. -/
def heldR (v : Value) : Option (DataW Value × List MemPlace) := some (.held v, [])

/-- f, but v at x. -/
noncomputable def upd {α β : Type} (f : α → Option β) (x : α) (v : β) : α → Option β := fun y => @ite _ (y = x) (Classical.propDecidable _) (some v) (f y)
theorem upd_same {α β : Type} (f : α → Option β) (x : α) (v : β) : upd f x v x = some v := by unfold upd; rw [if_pos rfl]
theorem upd_other {α β : Type} (f : α → Option β) {x y : α} (v : β) (h : y ≠ x) : upd f x v y = f y := by unfold upd; rw [if_neg h]

/-- A kind of keys: how the value, and the literal, of a key are made. -/
structure Kind (α : Type) (k : TypeId) (ok : α → Prop) (val : α → Value) (lit : α → Lit) : Prop where
  keyed : Keyed Try.prog k
  mkd : ∀ x, ok x → keyOf Try.prog k (val x) = some (lit x)
  inv : ∀ v kl, keyOf Try.prog k v = some kl → ∃ x, ok x ∧ v = val x ∧ kl = lit x
  inj : ∀ x y, lit x = lit y → x = y

structure TabD {α : Type} (f : α → Option Value) (lit : α → Lit) (s : Nat) (D : DataW Value) : Prop where
  size : Maps.size D = s
  has : ∀ x, Maps.has D (lit x) = (f x).isSome
  at' : ∀ x v, f x = some v → ∀ z, D.atKey (lit x) z = .held v

/-- Block b is a map that reads as the table f of s entries. -/
def Tab {α : Type} (k : TypeId) (lit : α → Lit) (w : World) (b : Nat) (f : α → Option Value) (s : Nat) : Prop :=
  ∃ D, w.ownsMap Try.prog k heldR b s D ∧ TabD f lit s D

section
variable {α : Type} {k : TypeId} {ok : α → Prop} {val : α → Value} {lit : α → Lit} (K : Kind α k ok val lit) {w w' : World} {b s : Nat} {f : α → Option Value}

theorem Tab.made (w : World) : Tab k lit (w.alloc (.map #[] 0)) w.heap.size (fun _ : α => none) 0 :=
  ⟨.map [], World.ownsMap_made _ _ _ _, rfl, fun _ => rfl, fun _ _ h => by cases h⟩

theorem Tab.lt (h : Tab k lit w b f s) : b < w.heap.size := h.elim fun _ h => h.1.lt

theorem Tab.block (h : Tab k lit w b f s) (e : w'.heap[b]? = w.heap[b]?) : Tab k lit w' b f s := by
  obtain ⟨D, ⟨es, clock, e0, r⟩, hd⟩ := h
  exact ⟨D, ⟨es, clock, e.trans e0, r⟩, hd⟩

theorem Tab.below (h : Tab k lit w b f s) (hb : Below w.heap.size w w') : Tab k lit w' b f s := h.block (hb.block b h.lt)
theorem Tab.grown (h : Tab k lit w b f s) {row : Option Nat} (hb : w.grownBy w' row) (hne : some b ≠ row) : Tab k lit w' b f s := h.block (hb.block b h.lt hne)
theorem Tab.drewN (h : Tab k lit w b f s) (q : Nat) : Tab k lit (w.drewN q) b f s := h
theorem Tab.alloc (h : Tab k lit w b f s) (o : Obj) : Tab k lit (w.alloc o) b f s := h.grown (World.grownBy_alloc w o none) (by simp)

include K

theorem TabD.put {D : DataW Value} {n : Nat} (hd : TabD f lit s D) (hown : w.ownsMap Try.prog k heldR b n D) (x : α) (hx : ok x) (v : Value) :
    TabD (upd f x v) lit (if (f x).isSome then s else s + 1) (D.put (lit x) (.held v)) := by
  have hkl := K.keyed.key (K.mkd x hx)
  have hm := hown.isMap
  refine ⟨?_, fun y => ?_, fun y u hu z => ?_⟩
  · rw [size_put (hown.tidy K.keyed), hd.has, hd.size]
  · by_cases e : y = x
    · subst e; rw [has_put_same hm hkl, upd_same]; rfl
    · rw [has_put_other (fun h => e (K.inj _ _ h)), upd_other _ _ e, hd.has]
  · by_cases e : y = x
    · subst e; rw [upd_same] at hu; cases hu; exact atKey_put_same hm hkl _ _
    · rw [upd_other _ _ e] at hu; rw [atKey_put_other (fun h => e (K.inj _ _ h))]; exact hd.at' y u hu z

omit K in
theorem TabD.get {D : DataW Value} (hd : TabD f lit s D) (x : α) (z : Value) : D.atKey (lit x) (.held z) = .held ((f x).getD z) := by
  cases e : f x with
  | some v => rw [hd.at' x v e]; rfl
  | none => rw [atKey_of_not_has]; rfl; rw [hd.has, e]; rfl

variable {t e : TypeId} (ht : Try.prog.underlying t = some (.map k e))
include ht

/-- m[x] -/
theorem Tab.look (h : Tab k lit w b f s) {z : Value} (hz : (zeroValue e).run Try.prog w = .ok z w) {x : α} (hx : ok x) :
    (Instr.lookup t (.map (some b)) (val x) false).run Try.prog w = .ok ((f x).getD z) w := by
  obtain ⟨D, hown, hd⟩ := h
  obtain ⟨v, ps, hrun, hv⟩ := hown.lookup K.keyed ht hz (zd := .held z) (zp := []) rfl (K.mkd x hx)
  rw [hd.get] at hv
  cases hv
  exact hrun

/-- v, ok := m[x] -/
theorem Tab.look_ok (h : Tab k lit w b f s) {z : Value} (hz : (zeroValue e).run Try.prog w = .ok z w) {x : α} (hx : ok x) :
    (Instr.lookup t (.map (some b)) (val x) true).run Try.prog w = .ok (.tuple #[(f x).getD z, .bool (f x).isSome]) w := by
  obtain ⟨D, hown, hd⟩ := h
  obtain ⟨v, ps, hrun, hv⟩ := hown.look_ok K.keyed ht hz (zd := .held z) (zp := []) rfl (K.mkd x hx)
  rw [hd.get] at hv
  cases hv
  rw [hrun, hd.has]

omit K in
theorem Tab.len (h : Tab k lit w b f s) (ty : TypeId) : (Builtin.len_ #[t] ty #[.map (some b)]).run Try.prog w = .ok (.int .i64 s) w := by
  obtain ⟨D, hown, hd⟩ := h
  rw [hown.len ht, hd.size]

/-- m[x] = v -/
theorem Tab.put (h : Tab k lit w b f s) (hs : s < maxLen) {x : α} (hx : ok x) (v : Value) :
    ∃ w', (Instr.mapUpdate t (.map (some b)) (val x) v).run Try.prog w = .ok () w' ∧ Tab k lit w' b (upd f x v) (if (f x).isSome then s else s + 1) ∧ w.mapTurned w' b := by
  obtain ⟨D, hown, hd⟩ := h
  obtain ⟨w', hrun, h1, h2⟩ := hown.store K.keyed ht hs (d := .held v) (ps := []) (K.mkd x hx) rfl
  have hd' := hd.put K hown x hx v
  refine ⟨w', hrun, ⟨_, ?_, hd'⟩, h2⟩
  obtain ⟨es, clock, e1, F, e2, e3⟩ := h1
  refine ⟨es, clock, e1, F, ?_, e3⟩
  have := hd'.size
  rw [e3] at this
  simp only [Maps.size, length_sorted, List.length_map, Array.length_toList] at this
  omega

variable {ops : Array Oper} {rest : List Oper} {o : Oper} {a : Act} {Q : Exit → Act → World → Prop}

theorem wp_tab_look (hg : o.guard = none) (m x : Operand) (hop : o.op = Op.lookup t m x false) {z : Value} (hz : (zeroValue e).run Try.prog w = .ok z w)
    (h : Tab k lit w b f s) (hm : a.eval m = .map (some b)) (y : α) (hx : a.eval x = val y) (hy : ok y)
    (hK : wpList Try.prog ops Q rest (a.put o.dst ((f y).getD z)) w) : wpList Try.prog ops Q (o :: rest) a w := by
  refine wpList_plain hg fun K' hK' => ?_
  unfold Oper.wp
  simp [execOp, hop, hm, hx, h.look K ht hz hy, Result.andThen]
  exact hK' _ _ hK

theorem wp_tab_look_ok (hg : o.guard = none) (m x : Operand) (hop : o.op = Op.lookup t m x true) {z : Value} (hz : (zeroValue e).run Try.prog w = .ok z w)
    (h : Tab k lit w b f s) (hm : a.eval m = .map (some b)) (y : α) (hx : a.eval x = val y) (hy : ok y)
    (hK : wpList Try.prog ops Q rest (a.put o.dst (.tuple #[(f y).getD z, .bool (f y).isSome])) w) : wpList Try.prog ops Q (o :: rest) a w := by
  refine wpList_plain hg fun K' hK' => ?_
  unfold Oper.wp
  simp [execOp, hop, hm, hx, h.look_ok K ht hz hy, Result.andThen]
  exact hK' _ _ hK

theorem wp_tab_put (hg : o.guard = none) (m x v : Operand) (hop : o.op = Op.mapUpdate t m x v) (h : Tab k lit w b f s) (hs : s < maxLen)
    (hm : a.eval m = .map (some b)) (y : α) (hx : a.eval x = val y) (hy : ok y) (u : Value) (hv : a.eval v = u)
    (hK : ∀ w', Tab k lit w' b (upd f y u) (if (f y).isSome then s else s + 1) → w.mapTurned w' b → wpList Try.prog ops Q rest (a.put o.dst undef) w') : wpList Try.prog ops Q (o :: rest) a w := by
  refine wpList_plain hg fun K' hK' => ?_
  obtain ⟨w', hrun, r1, r2⟩ := h.put K ht hs hy u
  unfold Oper.wp
  simp [execOp, hop, hm, hx, hv, hrun, Result.andThen]
  exact hK' _ _ (hK w' r1 r2)

omit K in
theorem wp_tab_len (hg : o.guard = none) (m : Operand) (hop : o.op = Op.call { callee := Callee.builtin Builtin.len, args := #[m], argTypes := #[t] })
    (h : Tab k lit w b f s) (hm : a.eval m = .map (some b))
    (hK : wpList Try.prog ops Q rest (a.put o.dst (.int .i64 s)) w) : wpList Try.prog ops Q (o :: rest) a w := by
  obtain ⟨D, hown, hd⟩ := h
  refine wpList_len_own w hg m t hop k e ht heldR b s D hm hown ?_
  rw [hd.size]
  exact hK

/-! ### ranging -/
omit K ht in
/-- Block r ranges over the table f in block b; the keys that have come are vis. -/
def TabRange {α : Type} (k : TypeId) (lit : α → Lit) (w : World) (b r : Nat) (f : α → Option Value) (s : Nat) (vis : List α) (cnt : Nat) : Prop :=
  ∃ D left, w.ranges Try.prog k heldR b r s D left cnt ∧ TabD f lit s D ∧ ∀ x, left (lit x) = true ↔ (f x).isSome = true ∧ x ∉ vis

omit K ht in
theorem TabRange.tab {r cnt : Nat} {vis : List α} (h : TabRange k lit w b r f s vis cnt) : Tab k lit w b f s := by
  obtain ⟨D, left, hr, hd, _⟩ := h
  exact ⟨D, hr.owns, hd⟩
omit K ht in
theorem TabRange.left_eq {r cnt : Nat} {vis : List α} (h : TabRange k lit w b r f s vis cnt) : w.rangeLeft b r = cnt := by
  obtain ⟨D, left, hr, hd, _⟩ := h
  exact hr.left_eq
omit K ht in
theorem TabRange.lt {r cnt : Nat} {vis : List α} (h : TabRange k lit w b r f s vis cnt) : r < w.heap.size := by
  obtain ⟨D, left, hr, hd, _⟩ := h
  exact hr.lt
omit K ht in
theorem TabRange.block {r cnt : Nat} {vis : List α} (h : TabRange k lit w b r f s vis cnt) {row : Option Nat} (hg : w.grownBy w' row) (h1 : some b ≠ row) (h2 : some r ≠ row) : TabRange k lit w' b r f s vis cnt := by
  obtain ⟨D, left, hr, hd⟩ := h
  exact ⟨D, left, hr.kept hg h1 h2, hd⟩

theorem wp_tab_range (hg : o.guard = none) (m : Operand) (hop : o.op = Op.range t m) (h : Tab k lit w b f s) (hm : a.eval m = .map (some b))
    (hK : ∀ w', TabRange k lit w' b w.heap.size f s [] s → w.grownBy w' none → w'.heap.size = w.heap.size + 1 → wpList Try.prog ops Q rest (a.put o.dst (.pointer (some ⟨w.heap.size, 0, none⟩))) w') : wpList Try.prog ops Q (o :: rest) a w := by
  obtain ⟨D, hown, hd⟩ := h
  refine wpList_range_own w hg m t hop k e K.keyed ht heldR b s D hm hown fun w' h1 h2 h3 => hK w' ⟨D, Maps.has D, ?_, hd, fun x => by rw [hd.has]; simp⟩ h2 h3
  rw [hd.size] at h1
  exact h1

omit ht in
theorem wp_tab_next (hg : o.guard = none) (it : Operand) (hop : o.op = Op.next it false) {r cnt : Nat} {vis : List α} (h : TabRange k lit w b r f s vis cnt) (hit : a.eval it = .pointer (some ⟨r, 0, none⟩))
    (hDone : (∀ x, (f x).isSome = true → x ∈ vis) → wpList Try.prog ops Q rest (a.put o.dst (.tuple #[.bool false])) w)
    (hMore : ∀ (x : α) (v : Value) (w' : World) (cnt' : Nat), ok x → f x = some v → x ∉ vis → TabRange k lit w' b r f s (vis ++ [x]) cnt' → cnt' < cnt → w.grownBy w' (some r) → w'.heap.size = w.heap.size →
      (Instr.entry (.pointer (some ⟨r, 0, none⟩))).run Try.prog w' = .ok (.tuple #[val x, v]) w' → wpList Try.prog ops Q rest (a.put o.dst (.tuple #[.bool true, val x, v])) w') : wpList Try.prog ops Q (o :: rest) a w := by
  obtain ⟨D, left, hr, hd, hl⟩ := h
  refine wpList_next_ranges w hg it hop k K.keyed heldR (mkK := fun x : {x : α // ok x} => val x.1) (mkV := id) (fun key kl hk => ?_) (fun v y _ => ⟨v, rfl⟩) b r s D left cnt hit hr (fun _ h0 => hDone fun x hx => ?_) ?_
  · obtain ⟨x, hx, e1, _⟩ := K.inv key kl hk
    exact ⟨⟨x, hx⟩, e1⟩
  · refine Classical.byContradiction fun hn => ?_
    have := (hl x).2 ⟨hx, hn⟩
    rw [h0] at this
    cases this
  · intro ⟨x, hx⟩ v kl y w' cnt' hk hlk hv hat hrg hlt hgr hsz hen
    have ek : kl = lit x := by
      have := K.mkd x hx
      simp only at hk
      rw [hk] at this
      cases this; rfl
    subst ek
    simp only [heldR, id_eq, Option.some.injEq] at hv
    subst hv
    have hsm := (hl x).1 hlk
    have hfx : f x = some v := by
      obtain ⟨u, hu⟩ := Option.isSome_iff_exists.1 hsm.1
      have e1 := hd.at' x u hu (.held v)
      have e2 := hat (.held v)
      rw [e1] at e2
      simp only [DataW.held.injEq] at e2
      rw [hu, e2]
    refine hMore x v w' cnt' hx hfx hsm.2 ⟨D, _, hrg, hd, fun z => ?_⟩ hlt hgr hsz hen
    simp only [Bool.and_eq_true, Bool.not_eq_true', List.mem_append, List.mem_singleton, not_or]
    constructor
    · rintro ⟨h1, h2⟩
      refine ⟨((hl z).1 h1).1, ((hl z).1 h1).2, fun e => ?_⟩
      subst e
      rw [WideAt.sameKey_self (K.keyed.key (K.mkd z hx))] at h2
      cases h2
    · rintro ⟨h1, h2, h3⟩
      exact ⟨(hl z).2 ⟨h1, h2⟩, sameKey_ne (fun e => h3 (K.inj _ _ e))⟩
end

/-! ### the two kinds of keys -/
def slit (s : ByteArray) : Lit := .string s.data.toList
theorem strKind : Kind ByteArray 9 (fun s => s.size ≤ maxLen) Value.string slit where
  keyed := string_keyed Try.underlying9
  mkd := fun s h => by simp [keyOf, Try.underlying9, mapKey, slit, h]
  inv := fun v kl h => by
    cases v <;> simp [keyOf, Try.underlying9, mapKey] at h
    obtain ⟨h1, rfl⟩ := h
    exact ⟨_, h1, rfl, rfl⟩
  inj := fun x y h => by
    simp only [slit, Lit.string.injEq] at h
    cases x; cases y
    simp only [ByteArray.mk.injEq] at h ⊢
    exact Array.toList_inj.1 h

theorem intKind : Kind Int 2 (fun x => (Lit.int .i64 x).wf = true) (Value.int .i64) (Lit.int .i64) where
  keyed := int_keyed Try.underlying2
  mkd := fun s h => keyOf_int_mk Try.underlying2 h
  inv := fun v kl h => by
    obtain ⟨x, e1, e2, e3⟩ := keyOf_int_inv Try.underlying2 h
    exact ⟨x, e3, e1, e2⟩
  inj := fun x y h => by cases h; rfl

end Go.Proofs.Qxb6602268a.M
