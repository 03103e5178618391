/- The law's callees, in the form in which it calls them. -/
import Derived.Test.Qxb6602268aPlain8
import Derived.Test.Qxb6602268aBytes17
namespace Go.Proofs.Qxb6602268a.M
open Go.ChangeShapes Go.WideShapes Go.ChangeAt Go.RowKit Go.Maps
set_option linter.unusedVariables false

set_option maxRecDepth 100000 in
theorem txnMap_nil' (w : World) (a2 : Option Addr) (l c m c2 : Nat) :
    Calls Try.prog 20 #[.slice none l c, .slice a2 m c2] w (fun e w' => e = .returned (.map none) ∧ w' = w) := by
  have hnil : ∀ (w : World) (l c : Nat), (binOp .eql 40 (.slice none l c) (.slice none 0 0)).run Try.prog w = .ok (.bool true) w := fun w l c => Lib.run_eql_slice_nil w 40 9 none l c 0 0 Try.underlying40
  go_enter Try.func20, Try.ntmps20
  go_wp2_with fail
  go_ret
  exact ⟨rfl, rfl⟩

/-- a transaction's map has come back -/
def RetTxn (w0 w w' : World) (e : Ending) (L : List BA) : Prop :=
  ∃ v f tx s, e = .returned v ∧ Kv w0.heap.size w' v f tx L s ∧ (∀ b, v = .map (some b) → w.heap.size ≤ b) ∧ Below w.heap.size w w'

theorem txn_any (w0 w : World) (hb0 : Below w0.heap.size w0 w) (a a2 : Option Addr) (c m c2 : Nat) (L : List BA) (A : Nat → Option Addr) (T : Nat → BA) (hL : L.length ≤ 1048576) (hm : m ≤ 1048576) (hf : Fits L) (hs : Strs w0 a L) (hp : Ptrs w0 a2 m A T) :
    Calls Try.prog 20 #[.slice a L.length c, .slice a2 m c2] w (fun e w' => RetTxn w0 w w' e L) := by
  cases a with
  | none =>
    have h0 : L = [] := by
      cases L with
      | nil => rfl
      | cons x r =>
        obtain ⟨b, o, e, _⟩ := hs (by simp)
        cases e
    subst h0
    refine (txnMap_nil' w a2 _ c m c2).mono ?_
    rintro e w' ⟨rfl, rfl⟩
    exact ⟨_, _, fun _ => none, 0, rfl, kv_nil _ _ _, (fun b e => by cases e), Below.refl _ _⟩
  | some x =>
    refine (txnMap_some w x a2 c m c2 L A hL hm hf (Vals.below hs hb0) (hp.row.below hb0)).mono ?_
    rintro e w' ⟨rfl, hT, hb⟩
    have hb' : Below w0.heap.size w0 w' := ⟨hb.os.trans hb0.os, hb.tape.trans hb0.tape, hb.output.trans hb0.output, Nat.le_trans hb0.size hb.size, fun i hi => (hb.block i (Nat.lt_of_lt_of_le hi hb0.size)).trans (hb0.block i hi)⟩
    exact ⟨_, _, _, _, rfl, kv_some hL hp (Nat.le_refl _) hT hb', (fun b e => by cases e; exact Nat.le_refl _), hb⟩

theorem Judged.after {w0 w w' : World} {kb vb mb : Nat} {fr fw : BA → Option Value} {tr tw : BA → Option BA} {st : NS} {ca re : Int} {u : Bool} {visR visW : List BA} {ob qb c : Nat} {ar aw : Option Addr} {cr cw : Nat} (h : Judged w w' kb vb mb fr fw tr tw st ca re u visR visW ob qb c ar aw cr cw) (hb : Below w0.heap.size w0 w) : Judged w0 w' kb vb mb fr fw tr tw st ca re u visR visW ob qb c ar aw cr cw :=
  ⟨h.rn, h.rk, h.wn, h.wk, h.tk, h.tv, h.m0, h.m1, h.m2, h.o0, h.q0, h.q1, h.q2, h.q3, h.q4, h.pr, h.pw, h.thr.after hb⟩

theorem modelAdd_judged (w : World) (mb kb vb sr sw : Nat) (cl ca re : Int) (rv wv : Value) (oc : ByteArray) (fr fw : ByteArray → Option Value) (tr tw : ByteArray → Option ByteArray) (st : NS) (u : Bool) (hsr : sr ≤ 1048576) (hsw : sw ≤ 1048576) (hk : st.ks ≤ 1048576) (hv : st.vs ≤ 1048576)
    (m : w.rowIs mb 70 5 (modelF (.slice none 0 0) kb vb))
    (TK : Tab 9 slit w kb (IT st.kf) st.ks) (TV : Tab 9 slit w vb (IT st.vf) st.vs) (TR : TxM w rv fr tr sr) (TW : TxM w wv fw tw sw) (hner : ∀ b, rv = .map (some b) → kb ≠ b ∧ vb ≠ b) (hnew : ∀ b, wv = .map (some b) → kb ≠ b ∧ vb ≠ b) (hkv : kb ≠ vb)
    (hlr : ∀ vis : List ByteArray, vis.Nodup → (∀ x, x ∈ vis ↔ (fr x).isSome = true) → vis.length ≤ 1048576)
    (ho1 : (oc.toList == [97, 98, 111, 114, 116, 101, 100]) = false) (ho2 : (oc.toList == [117, 110, 107, 110, 111, 119, 110]) = u) (hu : u = true → sw ≠ 0) :
    Calls Try.prog 23 #[.pointer (some ⟨mb, 0, none⟩), .agg #[.int .i64 cl, .int .i64 ca, .int .i64 re, rv, wv, .string oc]] w (fun e w' => RetAdd w w' e kb vb mb fr fw tr tw st ca re u) := by
  have hb : ∀ o, Below w.heap.size w (w.alloc o) := fun o => (Below.refl _ _).alloc (Nat.le_refl _) o
  have hm := m.lt
  have hb2 : ∀ o i v, w.cell? ⟨mb, i, none⟩ = some v → (w.alloc o).cell? ⟨mb, i, none⟩ = some v := fun o i v h => ((hb o).cell hm).trans h
  refine modelAdd_any w mb cl ca re rv wv oc (fun w' => ∃ visR visW ob qb c ar aw cr cw, Judged w w' kb vb mb fr fw tr tw st ca re u visR visW ob qb c ar aw cr cw) ?_
  cases u
  · refine (add_known _ mb kb vb sr sw cl ca re rv wv oc fr fw tr tw st hsr hsw hk hv (hb2 _ 0 _ (m.cell (i := 0) (by omega))) (hb2 _ 1 _ (m.cell (i := 1) (by omega))) (hb2 _ 2 _ (m.cell (i := 2) (by omega))) (by rw [World.frozen?_of_block (w := w) ((hb _).block mb hm)]; exact m.frozen 0) (TK.below (hb _)) (TV.below (hb _)) (TR.below (hb _)) (TW.below (hb _)) hner hnew hkv hlr ho1 ho2).mono ?_
    rintro e w' ⟨h1, visR, visW, ob, qb, c, ar, aw, cr, cw, hj⟩
    exact ⟨h1, visR, visW, ob, qb, c, ar, aw, cr, cw, hj.after (hb _)⟩
  · refine (add_unknown _ mb kb vb sr sw cl ca re rv wv oc fr fw tr tw st hsr hsw hk hv (hb2 _ 0 _ (m.cell (i := 0) (by omega))) (hb2 _ 1 _ (m.cell (i := 1) (by omega))) (hb2 _ 2 _ (m.cell (i := 2) (by omega))) (by rw [World.frozen?_of_block (w := w) ((hb _).block mb hm)]; exact m.frozen 0) (TK.below (hb _)) (TV.below (hb _)) (TR.below (hb _)) (TW.below (hb _)) hner hnew hkv hlr ho1 ho2 (hu rfl)).mono ?_
    rintro e w' ⟨h1, visR, visW, ob, qb, c, ar, aw, cr, cw, hj⟩
    exact ⟨h1, visR, visW, ob, qb, c, ar, aw, cr, cw, hj.after (hb _)⟩

/-- the transaction is not judged -/
theorem modelAdd_skips (w : World) (mb sw : Nat) (cl ca re : Int) (rv wv : Value) (oc : ByteArray) (fw : ByteArray → Option Value) (tw : ByteArray → Option ByteArray) (TW : TxM w wv fw tw sw)
    (h : (oc.toList == [97, 98, 111, 114, 116, 101, 100]) = true ∨ (oc.toList == [97, 98, 111, 114, 116, 101, 100]) = false ∧ (oc.toList == [117, 110, 107, 110, 111, 119, 110]) = true ∧ sw = 0) :
    Calls Try.prog 23 #[.pointer (some ⟨mb, 0, none⟩), .agg #[.int .i64 cl, .int .i64 ca, .int .i64 re, rv, wv, .string oc]] w (fun e w' => (∃ v, e = .returned v) ∧ Below w.heap.size w w') := by
  have hb : ∀ o, Below w.heap.size w (w.alloc o) := fun o => (Below.refl _ _).alloc (Nat.le_refl _) o
  have tr : ∀ o w', Below (w.alloc o).heap.size (w.alloc o) w' → Below w.heap.size w w' := fun o w' h => ⟨h.os.trans (hb o).os, h.tape.trans (hb o).tape, h.output.trans (hb o).output, Nat.le_trans (hb o).size h.size, fun i hi => (h.block i (Nat.lt_of_lt_of_le hi (hb o).size)).trans ((hb o).block i hi)⟩
  refine modelAdd_any w mb cl ca re rv wv oc (fun w' => Below w.heap.size w w') ?_
  rcases h with h | ⟨h1, h2, rfl⟩
  · refine (add_aborted _ mb cl ca re rv wv oc h).mono ?_
    rintro e w' ⟨rfl, h⟩
    exact ⟨⟨_, rfl⟩, tr _ _ h⟩
  · refine (add_wroteNothing _ mb cl ca re rv wv oc fw tw (TW.below (hb _)) h1 h2).mono ?_
    rintro e w' ⟨rfl, h⟩
    exact ⟨⟨_, rfl⟩, tr _ _ h⟩

/-- a list of names is no longer than the keys -/
theorem vis_len {B : Nat} {w : World} {v : Value} {f : BA → Option Value} {tx : BA → Option BA} {L : List BA} {s : Nat} (k : Kv B w v f tx L s) (hL : L.length ≤ 1048576) (vis : List BA) (hn : vis.Nodup) (h : ∀ x, x ∈ vis ↔ (f x).isSome = true) : vis.length ≤ 1048576 := by
  have := ((List.perm_ext_iff_of_nodup hn (dist_nodup L)).2 (fun x => by rw [h, k.keys, dist_mem])).length_eq
  have := dist_len L
  omega

end Go.Proofs.Qxb6602268a.M
