/- What is known ahead of the model, and the callees' contracts there. -/
import Derived.Test.Qxb6602268aAdd2
namespace Go.Proofs.Qxb6602268a.M
open Go.ChangeShapes Go.WideShapes Go.ChangeAt Go.RowKit Go.Maps
set_option linter.unusedVariables false

/-- what is known ahead of the model -/
structure Before (w0 w : World) (a0 a2 aR aW : Option Addr) (kb vb kbb vbb sr sw : Nat) (rv wv : Value) (fr fw : BA → Option Value) (tr tw : BA → Option BA) (L0 L2 L4 L6 : List BA) (st : NS) : Prop where
  fix : Fix L0 L2 L4 L6 st
  s0 : Strs w a0 L0
  s2 : Strs w a2 L2
  sR : Strs w aR (dist L4)
  sW : Strs w aW (dist L6)
  tk : Tab 9 slit w kb (IT st.kf) st.ks
  tv : Tab 9 slit w vb (IT st.vf) st.vs
  tk0 : Tab 9 slit w kbb (IT st.kf) st.ks
  tv0 : Tab 9 slit w vbb (IT st.vf) st.vs
  kr : Kv w0.heap.size w rv fr tr L4 sr
  kw : Kv w0.heap.size w wv fw tw L6 sw
  hr : ∀ b, rv = .map (some b) → kb ≠ b ∧ vb ≠ b
  hw : ∀ b, wv = .map (some b) → kb ≠ b ∧ vb ≠ b
  n1 : kb ≠ vb
  n2 : kbb ≠ kb
  n3 : kbb ≠ vb
  n4 : vbb ≠ kb
  n5 : vbb ≠ vb
  bk : w0.heap.size ≤ kb
  bv : w0.heap.size ≤ vb
  hb : Below w0.heap.size w0 w

theorem Vals.two {w w' : World} {kb vb sk sv n : Nat} {a : Option Addr} {V : Nat → Value} {FK FV : BA → Option Value} (h : Vals w a n V) (h2 : Two w w' kb vb) (TK : Tab 9 slit w kb FK sk) (TV : Tab 9 slit w vb FV sv) : Vals w' a n V := by
  intro h0
  obtain ⟨b, o, ha, hc⟩ := h h0
  exact ⟨b, o, ha, fun i hi => h2.cell (hc i hi) (TK.no_cell (hc i hi)) (TV.no_cell (hc i hi))⟩

section
variable {w0 w : World} {a0 a2 aR aW : Option Addr} {kb vb kbb vbb sr sw : Nat} {rv wv : Value} {fr fw : BA → Option Value} {tr tw : BA → Option BA} {L0 L2 L4 L6 : List BA} {st : NS} (h : (Before w0 w a0 a2 aR aW kb vb kbb vbb sr sw rv wv fr fw tr tw L0 L2 L4 L6 st))
include h

theorem Before.below {w' : World} (hb : Below w.heap.size w w') : (Before w0 w' a0 a2 aR aW kb vb kbb vbb sr sw rv wv fr fw tr tw L0 L2 L4 L6 st) :=
  ⟨h.fix, h.s0.below hb, h.s2.below hb, h.sR.below hb, h.sW.below hb, h.tk.below hb, h.tv.below hb, h.tk0.below hb, h.tv0.below hb, h.kr.below hb, h.kw.below hb, h.hr, h.hw, h.n1, h.n2, h.n3, h.n4, h.n5, h.bk, h.bv, below_then h.hb hb⟩

theorem Before.judged {wN w1 : World} (hN : Below w.heap.size w wN) {ca re : Int} {u : Bool} {visR visW : List BA} {ob qb c : Nat} {ar aw : Option Addr} {cr cw : Nat} (hj : Judged wN w1 kb vb w.heap.size fr fw tr tw st ca re u visR visW ob qb c ar aw cr cw) :
    After w0.heap.size w1 a0 a2 aR aW kb vb kbb vbb w.heap.size sr sw rv wv fr fw tr tw L0 L2 L4 L6 st visR visW ob qb c ar aw cr cw ca re u ∧ Below w0.heap.size w0 w1 := by
  have two : Two w w1 kb vb := ⟨hj.thr.os.trans hN.os, hj.thr.tape.trans hN.tape, hj.thr.output.trans hN.output, Nat.le_trans hN.size hj.thr.size, fun i hi h1 h2 => (hj.thr.block i (Nat.lt_of_lt_of_le hi hN.size) h1 h2 (by omega)).trans (hN.block i hi)⟩
  refine ⟨⟨h.fix, Vals.two h.s0 two h.tk h.tv, Vals.two h.s2 two h.tk h.tv, Vals.two h.sR two h.tk h.tv, Vals.two h.sW two h.tk h.tv, h.tk0.block (two.block _ h.tk0.lt h.n2 h.n3), h.tv0.block (two.block _ h.tv0.lt h.n4 h.n5), hj.tk, hj.tv, ⟨h.kr.m.two h.hr two h.tk h.tv, h.kr.keys, h.kr.le, h.kr.val, h.kr.low⟩, ⟨h.kw.m.two h.hw two h.tk h.tv, h.kw.keys, h.kw.le, h.kw.val, h.kw.low⟩, hj.rn, hj.rk, hj.wn, hj.wk, hj.m0, hj.o0, hj.q0, hj.q1, hj.q2, hj.q3, hj.q4, hj.pr, hj.pw⟩, two.below h.hb h.bk h.bv h.hb.size⟩

theorem Before.c23 (mb : Nat) (cl ca re : Int) (oc : BA) (u : Bool) (m : w.rowIs mb 70 5 (modelF (.slice none 0 0) kb vb)) (ho1 : (oc.toList == [97, 98, 111, 114, 116, 101, 100]) = false) (ho2 : (oc.toList == [117, 110, 107, 110, 111, 119, 110]) = u) (hu : u = true → sw ≠ 0) :
    Calls Try.prog 23 #[.pointer (some ⟨mb, 0, none⟩), .agg #[.int .i64 cl, .int .i64 ca, .int .i64 re, rv, wv, .string oc]] w (fun e w' => RetAdd w w' e kb vb mb fr fw tr tw st ca re u) :=
  modelAdd_judged w mb kb vb sr sw cl ca re rv wv oc fr fw tr tw st u h.kr.le h.kw.le h.fix.ks h.fix.vs m h.tk h.tv h.kr.m h.kw.m h.hr h.hw h.n1 (fun vis h1 h2 => vis_len h.kr h.fix.l4 vis h1 h2) ho1 ho2 hu
theorem Before.c23s (mb : Nat) (cl ca re : Int) (oc : BA) (ho : (oc.toList == [97, 98, 111, 114, 116, 101, 100]) = true ∨ (oc.toList == [97, 98, 111, 114, 116, 101, 100]) = false ∧ (oc.toList == [117, 110, 107, 110, 111, 119, 110]) = true ∧ sw = 0) :
    Calls Try.prog 23 #[.pointer (some ⟨mb, 0, none⟩), .agg #[.int .i64 cl, .int .i64 ca, .int .i64 re, rv, wv, .string oc]] w (fun e w' => (∃ v, e = .returned v) ∧ Below w.heap.size w w') :=
  modelAdd_skips w mb sw cl ca re rv wv oc fw tw h.kw.m ho
theorem Before.c27k (c0 : Nat) : Calls Try.prog 27 #[.map (some kb), .map (some kbb), .slice a0 L0.length c0, .int .i64 0, .slice none 0 0, .slice none 0 0] w (fun e w' => e = .returned (.bool true) ∧ Below w.heap.size w w') :=
  numb_same w a0 c0 kb kbb st.ks 0 L0 st.kf h.fix.l0 h.fix.ks (by omega) h.fix.f0 h.s0 h.tk h.tk0 h.fix.inK
theorem Before.c27v (c0 : Nat) : Calls Try.prog 27 #[.map (some vb), .map (some vbb), .slice a2 L2.length c0, .int .i64 1, .slice none 0 0, .slice none 0 0] w (fun e w' => e = .returned (.bool true) ∧ Below w.heap.size w w') :=
  numb_same w a2 c0 vb vbb st.vs 1 L2 st.vf h.fix.l2 h.fix.vs (by omega) h.fix.f2 h.s2 h.tv h.tv0 h.fix.inV
end

end Go.Proofs.Qxb6602268a.M
