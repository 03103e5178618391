/- Around add: a transaction's map as the model takes it; worlds that differ in three old blocks alone. -/
import Derived.Test.Qxb6602268aDom6
namespace Go.Proofs.Qxb6602268a.M
open Go.ChangeShapes Go.WideShapes Go.ChangeAt Go.RowKit Go.Maps
set_option linter.unusedVariables false

def kOf (ps : List (Int × Int)) (i : Nat) : Int := (ps.getD i (0, 0)).1
def vOf (ps : List (Int × Int)) (i : Nat) : Int := (ps.getD i (0, 0)).2

theorem flat_get : ∀ (ps : List (Int × Int)) (i : Nat), i < ps.length → (flat ps)[i * 2]? = some (.int .i32 (kOf ps i)) ∧ (flat ps)[i * 2 + 1]? = some (.int .i32 (vOf ps i))
  | [], i, h => by simp at h
  | p :: r, 0, h => by simp [flat, kOf, vOf]
  | p :: r, i + 1, h => by
    have := flat_get r i (by simpa using h)
    have e : (i + 1) * 2 = i * 2 + 2 := by omega
    simp only [flat, List.flatMap_cons, kOf, vOf, e] at this ⊢
    simpa using this

theorem prs_of_own {w : World} {B n : Nat} {v : Value} {ps : List (Int × Int)} (hn : ps.length = n) (h : w.ownsRow B 91 2 v n (flat ps)) : ∃ a c, v = .slice a n c ∧ Prs w a n (kOf ps) (vOf ps) ∧ (∀ b o, a = some ⟨b, o, none⟩ → B ≤ b) := by
  subst hn
  rcases h.2 with ⟨rfl, h0⟩ | ⟨g, cap, cur, rfl, h1, h2, h3, h4, h5, h6⟩
  · exact ⟨none, 0, by rw [h0], fun hp => by omega, fun b o e => by cases e⟩
  · refine ⟨_, _, rfl, fun hp => ⟨g, rfl, fun i hi => ?_⟩, fun b o e => by cases e; exact h1⟩
    obtain ⟨e1, e2⟩ := flat_get ps i hi
    have c1 := h.cells (g := g) rfl (i * 2) _ e1
    have c2 := h.cells (g := g) rfl (i * 2 + 1) _ e2
    constructor
    · by_cases h0 : i = 0
      · subst h0; simpa [Addr.add] using c1
      · have h0' : i * 2 ≠ 0 := by omega
        simpa [Addr.add, h0'] using c1
    · simpa [Addr.add] using c2

/-- a transaction's reads or writes: nil, or a table of pointers to texts -/
def TxM (w : World) (v : Value) (f : ByteArray → Option Value) (tx : ByteArray → Option ByteArray) (s : Nat) : Prop :=
  (v = .map none ∧ f = (fun _ => none) ∧ s = 0) ∨ ∃ b, v = .map (some b) ∧ Tab 9 slit w b f s ∧ Txt w f tx

theorem TxM.len {w : World} {v : Value} {f : ByteArray → Option Value} {tx : ByteArray → Option ByteArray} {s : Nat} (h : TxM w v f tx s) (ty : TypeId) : (Builtin.len_ #[46] ty #[v]).run Try.prog w = .ok (.int .i64 s) w := by
  rcases h with ⟨rfl, _, rfl⟩ | ⟨b, rfl, hT, _⟩
  · exact Maps.len_nil (P := Try.prog) (w := w) Try.underlying46 ty
  · exact hT.len Try.underlying46 ty

theorem Txt.two {w w' : World} {kb vb : Nat} {f FK FV : ByteArray → Option Value} {tx : ByteArray → Option ByteArray} {sk sv : Nat} (h : Txt w f tx) (h2 : Two w w' kb vb) (TK : Tab 9 slit w kb FK sk) (TV : Tab 9 slit w vb FV sv) : Txt w' f tx :=
  ⟨fun x v hx => by
    rcases h.at' x v hx with h | ⟨ad, t, e1, e2, e3, e4⟩
    · exact Or.inl h
    · exact Or.inr ⟨ad, t, e1, e2, h2.cell e3 (TK.no_cell e3) (TV.no_cell e3), e4⟩⟩
theorem Txt.below {w w' : World} {f : ByteArray → Option Value} {tx : ByteArray → Option ByteArray} (h : Txt w f tx) (hb : Below w.heap.size w w') : Txt w' f tx :=
  ⟨fun x v hx => by
    rcases h.at' x v hx with h | ⟨ad, t, e1, e2, e3, e4⟩
    · exact Or.inl h
    · exact Or.inr ⟨ad, t, e1, e2, (hb.cell (lt_of_cell e3)).trans e3, e4⟩⟩

theorem TxM.two {w w' : World} {v : Value} {kb vb : Nat} {f FK FV : ByteArray → Option Value} {tx : ByteArray → Option ByteArray} {s sk sv : Nat} (h : TxM w v f tx s) (hne : ∀ b, v = .map (some b) → kb ≠ b ∧ vb ≠ b) (h2 : Two w w' kb vb) (TK : Tab 9 slit w kb FK sk) (TV : Tab 9 slit w vb FV sv) : TxM w' v f tx s := by
  rcases h with h | ⟨b, rfl, hT, ht⟩
  · exact Or.inl h
  · have := hne b rfl
    exact Or.inr ⟨b, rfl, hT.block (h2.block b hT.lt (Ne.symm this.1) (Ne.symm this.2)), ht.two h2 TK TV⟩
theorem TxM.below {w w' : World} {v : Value} {f : ByteArray → Option Value} {tx : ByteArray → Option ByteArray} {s : Nat} (h : TxM w v f tx s) (hb : Below w.heap.size w w') : TxM w' v f tx s := by
  rcases h with h | ⟨b, rfl, hT, ht⟩
  · exact Or.inl h
  · exact Or.inr ⟨b, rfl, hT.below hb, ht.below hb⟩

theorem assigns_any (w : World) (mb kb vb s : Nat) (v : Value) (f : ByteArray → Option Value) (tx : ByteArray → Option ByteArray) (st : NS) (hs : s ≤ 1048576) (hk : st.ks ≤ 2097152) (hv : st.vs ≤ 2097152)
    (m1 : w.cell? ⟨mb, 1, none⟩ = some (.map (some kb))) (m2 : w.cell? ⟨mb, 2, none⟩ = some (.map (some vb))) (TR : TxM w v f tx s) (TK : Tab 9 slit w kb (IT st.kf) st.ks) (TV : Tab 9 slit w vb (IT st.vf) st.vs)
    (hne : ∀ b, v = .map (some b) → kb ≠ b ∧ vb ≠ b) (hkv : kb ≠ vb) :
    Calls Try.prog 49 #[.pointer (some ⟨mb, 0, none⟩), v] w (fun e w' => RetAsg w w' e kb vb f tx st) := by
  rcases TR with ⟨rfl, rfl, _⟩ | ⟨b, rfl, hT, ht⟩
  · exact assigns_nil w mb kb vb tx st TK TV
  · exact assigns_some w mb b kb vb s f tx st hs hk hv m1 m2 hT TK TV (hne b rfl).1 (hne b rfl).2 hkv ht

/-- Of the old blocks but three have turned. -/
structure Thr (w w' : World) (kb vb mb : Nat) : Prop where
  os : w'.os = w.os
  tape : w'.tape = w.tape
  output : w'.output = w.output
  size : w.heap.size ≤ w'.heap.size
  block : ∀ i, i < w.heap.size → i ≠ kb → i ≠ vb → i ≠ mb → w'.heap[i]? = w.heap[i]?
theorem Two.thr {w w' : World} {kb vb : Nat} (h : Two w w' kb vb) (mb : Nat) : Thr w w' kb vb mb := ⟨h.os, h.tape, h.output, h.size, fun i hi h1 h2 _ => h.block i hi h1 h2⟩
theorem Thr.grown {w w1 w2 : World} {kb vb mb : Nat} (h : Thr w w1 kb vb mb) {row : Option Nat} (hg : w1.grownBy w2 row) (hr : ∀ j, row = some j → w.heap.size ≤ j) : Thr w w2 kb vb mb :=
  ⟨hg.os.trans h.os, hg.tape.trans h.tape, hg.output.trans h.output, Nat.le_trans h.size hg.size, fun i hi h1 h2 h3 => (hg.block i (Nat.lt_of_lt_of_le hi h.size) (fun e => by have := hr i e.symm; omega)).trans (h.block i hi h1 h2 h3)⟩
theorem Thr.store {w w1 : World} {kb vb mb : Nat} (h : Thr w w1 kb vb mb) {i : Nat} (v : Value) : Thr w (w1.setCell ⟨mb, i, none⟩ v) kb vb mb :=
  ⟨h.os, h.tape, h.output, by rw [World.size_setCell]; exact h.size, fun i hi h1 h2 h3 => (Deep.blk_setCell_other _ _ _ _ (by simpa using h3)).trans (h.block i hi h1 h2 h3)⟩
theorem Thr.after {w0 w w1 : World} {kb vb mb : Nat} (h : Thr w w1 kb vb mb) (hb : Below w0.heap.size w0 w) : Thr w0 w1 kb vb mb :=
  ⟨h.os.trans hb.os, h.tape.trans hb.tape, h.output.trans hb.output, Nat.le_trans hb.size h.size, fun i hi h1 h2 h3 => (h.block i (Nat.lt_of_lt_of_le hi hb.size) h1 h2 h3).trans (hb.block i hi)⟩
theorem Thr.cell {w w1 : World} {kb vb mb : Nat} (h : Thr w w1 kb vb mb) {a : Addr} {v : Value} (hc : w.cell? a = some v) (h1 : a.block ≠ kb) (h2 : a.block ≠ vb) (h3 : a.block ≠ mb) : w1.cell? a = some v := by
  rw [← hc]; exact World.cell?_of_block (h.block _ (lt_of_cell hc) h1 h2 h3)
theorem Thr.below {w0 w w1 : World} {B kb vb mb : Nat} (h : Thr w w1 kb vb mb) (hb : Below B w0 w) (hk : B ≤ kb) (hv : B ≤ vb) (hm : B ≤ mb) (hB : B ≤ w.heap.size) : Below B w0 w1 :=
  ⟨h.os.trans hb.os, h.tape.trans hb.tape, h.output.trans hb.output, Nat.le_trans hb.size h.size, fun i hi => (h.block i (by omega) (by omega) (by omega) (by omega)).trans (hb.block i hi)⟩

theorem Prs.block {w w' : World} {a : Option Addr} {n : Nat} {K V : Nat → Int} (h : Prs w a n K V) (hb : ∀ b, a = some ⟨b, 0, none⟩ → b < w.heap.size → w'.heap[b]? = w.heap[b]?) : Prs w' a n K V := by
  intro h0
  obtain ⟨b, ha, hc⟩ := h h0
  have e := hb b ha (lt_of_cell (hc 0 h0).1)
  exact ⟨b, ha, fun i hi => ⟨(World.cell?_of_block e).trans (hc i hi).1, (World.cell?_of_block e).trans (hc i hi).2⟩⟩
theorem Prs.lt {w : World} {a : Option Addr} {n : Nat} {K V : Nat → Int} (h : Prs w a n K V) (h0 : 0 < n) : ∃ b, a = some ⟨b, 0, none⟩ ∧ b < w.heap.size := by
  obtain ⟨b, ha, hc⟩ := h h0
  exact ⟨b, ha, lt_of_cell (hc 0 h0).1⟩

/-- add has made one operation of the transaction: visR, visW: the orders in which its maps were gone through -/
structure Judged (w w' : World) (kb vb mb : Nat) (fr fw : ByteArray → Option Value) (tr tw : ByteArray → Option ByteArray) (st : NS) (ca re : Int) (u : Bool) (visR visW : List ByteArray) (ob qb c : Nat) (ar aw : Option Addr) (cr cw : Nat) : Prop where
  rn : visR.Nodup
  rk : ∀ x, x ∈ visR ↔ (fr x).isSome = true
  wn : visW.Nodup
  wk : ∀ x, x ∈ visW ↔ (fw x).isSome = true
  tk : Tab 9 slit w' kb (IT (nrun tw (nrun tr st visR) visW).kf) (nrun tw (nrun tr st visR) visW).ks
  tv : Tab 9 slit w' vb (IT (nrun tw (nrun tr st visR) visW).vf) (nrun tw (nrun tr st visR) visW).vs
  m0 : w'.cell? ⟨mb, 0, none⟩ = some (.slice (some ⟨ob, 0, none⟩) 1 c)
  m1 : w'.cell? ⟨mb, 1, none⟩ = some (.map (some kb))
  m2 : w'.cell? ⟨mb, 2, none⟩ = some (.map (some vb))
  o0 : w'.cell? ⟨ob, 0, none⟩ = some (.pointer (some ⟨qb, 0, none⟩))
  q0 : w'.cell? ⟨qb, 0, none⟩ = some (.slice ar visR.length cr)
  q1 : w'.cell? ⟨qb, 1, none⟩ = some (.slice aw visW.length cw)
  q2 : w'.cell? ⟨qb, 2, none⟩ = some (.int .i64 ca)
  q3 : w'.cell? ⟨qb, 3, none⟩ = some (.int .i64 re)
  q4 : w'.cell? ⟨qb, 4, none⟩ = some (.bool u)
  pr : Prs w' ar visR.length (kOf (nout tr st visR)) (vOf (nout tr st visR))
  pw : Prs w' aw visW.length (kOf (nout tw (nrun tr st visR) visW)) (vOf (nout tw (nrun tr st visR) visW))
  thr : Thr w w' kb vb mb

def RetAdd (w w' : World) (e : Ending) (kb vb mb : Nat) (fr fw : ByteArray → Option Value) (tr tw : ByteArray → Option ByteArray) (st : NS) (ca re : Int) (u : Bool) : Prop :=
  (∃ v, e = .returned v) ∧ ∃ visR visW ob qb c ar aw cr cw, Judged w w' kb vb mb fr fw tr tw st ca re u visR visW ob qb c ar aw cr cw

end Go.Proofs.Qxb6602268a.M
