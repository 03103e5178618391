/- What is known behind add, and the callees' contracts there. -/
import Derived.Test.Qxb6602268aCalls6
namespace Go.Proofs.Qxb6602268a.M
open Go.ChangeShapes Go.WideShapes Go.ChangeAt Go.RowKit Go.Maps
set_option linter.unusedVariables false

/-- what no callee can turn -/
structure Fix (L0 L2 L4 L6 : List BA) (st : NS) : Prop where
  l0 : L0.length ≤ 1048576
  l2 : L2.length ≤ 1048576
  l4 : L4.length ≤ 1048576
  l6 : L6.length ≤ 1048576
  f0 : Fits L0
  f2 : Fits L2
  f4 : Fits L4
  f6 : Fits L6
  ks : st.ks ≤ 1048576
  vs : st.vs ≤ 1048576
  inK : ∀ x, x ∈ L0 → (st.kf x).isSome = true
  inV : ∀ x, x ∈ L2 → (st.vf x).isSome = true
  rK : ∀ x z, st.kf x = some z → -2147483648 ≤ z ∧ z ≤ 2147483647
  rV : ∀ x z, st.vf x = some z → -2147483648 ≤ z ∧ z ≤ 2147483647

structure After (B : Nat) (w : World) (a0 a2 aR aW : Option Addr) (kb vb kbb vbb mb sr sw : Nat) (rv wv : Value) (fr fw : BA → Option Value) (tr tw : BA → Option BA) (L0 L2 L4 L6 : List BA) (st : NS) (visR visW : List BA) (ob qb c : Nat) (ar aw : Option Addr) (cr cw : Nat) (ca re : Int) (u : Bool) : Prop where
  fix : Fix L0 L2 L4 L6 st
  s0 : Strs w a0 L0
  s2 : Strs w a2 L2
  sR : Strs w aR (dist L4)
  sW : Strs w aW (dist L6)
  tk0 : Tab 9 slit w kbb (IT st.kf) st.ks
  tv0 : Tab 9 slit w vbb (IT st.vf) st.vs
  tk : Tab 9 slit w kb (IT (nrun tw (nrun tr st visR) visW).kf) (nrun tw (nrun tr st visR) visW).ks
  tv : Tab 9 slit w vb (IT (nrun tw (nrun tr st visR) visW).vf) (nrun tw (nrun tr st visR) visW).vs
  kr : Kv B w rv fr tr L4 sr
  kw : Kv B w wv fw tw L6 sw
  rn : visR.Nodup
  rk : ∀ x, x ∈ visR ↔ (fr x).isSome = true
  wn : visW.Nodup
  wk : ∀ x, x ∈ visW ↔ (fw x).isSome = true
  m0 : w.cell? ⟨mb, 0, none⟩ = some (.slice (some ⟨ob, 0, none⟩) 1 c)
  o0 : w.cell? ⟨ob, 0, none⟩ = some (.pointer (some ⟨qb, 0, none⟩))
  q0 : w.cell? ⟨qb, 0, none⟩ = some (.slice ar visR.length cr)
  q1 : w.cell? ⟨qb, 1, none⟩ = some (.slice aw visW.length cw)
  q2 : w.cell? ⟨qb, 2, none⟩ = some (.int .i64 ca)
  q3 : w.cell? ⟨qb, 3, none⟩ = some (.int .i64 re)
  q4 : w.cell? ⟨qb, 4, none⟩ = some (.bool u)
  pr : Prs w ar visR.length (kOf (nout tr st visR)) (vOf (nout tr st visR))
  pw : Prs w aw visW.length (kOf (nout tw (nrun tr st visR) visW)) (vOf (nout tw (nrun tr st visR) visW))

theorem vG_congr (P : Nat → Option Addr) (T T' : Nat → BA) (k : Nat) (l : List BA) (h : T k = T' k) : vG P T k l = vG P T' k l := by
  cases hp : P k with
  | none => rw [vG_nil hp, vG_nil hp]
  | some x =>
    by_cases hm : T' k ∈ l
    · rw [vG_in hm, vG_in (by rw [h]; exact hm)]
    · rw [vG_out hp hm, vG_out hp (by rw [h]; exact hm), h]

section
variable {B : Nat} {w : World} {a0 a2 aR aW : Option Addr} {kb vb kbb vbb mb sr sw : Nat} {rv wv : Value} {fr fw : BA → Option Value} {tr tw : BA → Option BA} {L0 L2 L4 L6 : List BA} {st : NS} {visR visW : List BA} {ob qb c : Nat} {ar aw : Option Addr} {cr cw : Nat} {ca re : Int} {u : Bool}
  (h : After B w a0 a2 aR aW kb vb kbb vbb mb sr sw rv wv fr fw tr tw L0 L2 L4 L6 st visR visW ob qb c ar aw cr cw ca re u)
include h

theorem After.below {w' : World} (hb : Below w.heap.size w w') : After B w' a0 a2 aR aW kb vb kbb vbb mb sr sw rv wv fr fw tr tw L0 L2 L4 L6 st visR visW ob qb c ar aw cr cw ca re u := by
  have k : ∀ (a : Addr) (v : Value), w.cell? a = some v → w'.cell? a = some v := fun a v hc => (hb.cell (lt_of_cell hc)).trans hc
  exact ⟨h.fix, h.s0.below hb, h.s2.below hb, h.sR.below hb, h.sW.below hb, h.tk0.below hb, h.tv0.below hb, h.tk.below hb, h.tv.below hb, h.kr.below hb, h.kw.below hb, h.rn, h.rk, h.wn, h.wk, k _ _ h.m0, k _ _ h.o0, k _ _ h.q0, k _ _ h.q1, k _ _ h.q2, k _ _ h.q3, k _ _ h.q4, h.pr.below hb, h.pw.below hb⟩

theorem After.keys6 : Two6 st.kf (nrun tr st visR).kf (nrun tw (nrun tr st visR) visW).kf st.ks (nrun tw (nrun tr st visR) visW).ks 0 visR visW (frsh (dist L4) (IT st.kf) (fun _ => false)) (frsh (dist L6) (IT st.kf) (inS (dist L4))) := keys_two st.kf st rfl h.kr h.kw h.rn h.rk h.wn h.wk
theorem After.vals6 : Two6 st.vf (nrun tr st visR).vf (nrun tw (nrun tr st visR) visW).vf st.vs (nrun tw (nrun tr st visR) visW).vs 1 (visR.filterMap tr) (visW.filterMap tw) (frsh (texts (dist L4) fr tr) (IT st.vf) (fun _ => false)) (frsh (texts (dist L6) fw tw) (IT st.vf) (inS (texts (dist L4) fr tr))) := vals_two st.vf st rfl h.kr h.kw h.rk h.wk

theorem After.nR : (dist L4).length ≤ 1048576 := Nat.le_trans (dist_len _) h.fix.l4
theorem After.nW : (dist L6).length ≤ 1048576 := Nat.le_trans (dist_len _) h.fix.l6
theorem After.fR : Fits (dist L4) := dist_fits h.fix.f4
theorem After.fW : Fits (dist L6) := dist_fits h.fix.f6
theorem After.tR : Fits (texts (dist L4) fr tr) := texts_fits h.kr _ (fun x hx => (dist_mem _ x).1 hx)
theorem After.tW : Fits (texts (dist L6) fw tw) := texts_fits h.kw _ (fun x hx => (dist_mem _ x).1 hx)
theorem After.tRn : (texts (dist L4) fr tr).length ≤ 1048576 := Nat.le_trans (texts_len _ _ _) h.nR
theorem After.tWn : (texts (dist L6) fw tw).length ≤ 1048576 := Nat.le_trans (texts_len _ _ _) h.nW
omit h in
theorem frsh_fits {L : List BA} (hf : Fits L) (F : BA → Option Value) (tk : BA → Bool) : Fits (frsh L F tk) := Fits.of_mem fun x hx => hf.mem ((frsh_mem L F tk x).1 hx).1
theorem After.rgK (x : BA) (z : Int) (hz : (nrun tw (nrun tr st visR) visW).kf x = some z) : -2147483648 ≤ z ∧ z ≤ 2147483647 := by
  rcases h.keys6.bound x z hz with h1 | ⟨h1, h2⟩
  · exact h.fix.rK x z h1
  · have := frsh_len (dist L4) (IT st.kf) (fun _ => false)
    have := frsh_len (dist L6) (IT st.kf) (inS (dist L4))
    have := h.nR
    have := h.nW
    have := h.fix.ks
    omega
theorem After.rgV (x : BA) (z : Int) (hz : (nrun tw (nrun tr st visR) visW).vf x = some z) : -2147483648 ≤ z ∧ z ≤ 2147483647 := by
  rcases h.vals6.bound x z hz with h1 | ⟨h1, h2⟩
  · exact h.fix.rV x z h1
  · have := frsh_len (texts (dist L4) fr tr) (IT st.vf) (fun _ => false)
    have := frsh_len (texts (dist L6) fw tw) (IT st.vf) (inS (texts (dist L4) fr tr))
    have := h.tRn
    have := h.tWn
    have := h.fix.vs
    omega

theorem After.c27k {aA aB : Option Addr} (c0 cA cB : Nat) (SA : Strs w aA (frsh (dist L4) (IT st.kf) (fun _ => false))) (SB : Strs w aB (frsh (dist L6) (IT st.kf) (inS (dist L4)))) :
    Calls Try.prog 27 #[.map (some kb), .map (some kbb), .slice a0 L0.length c0, .int .i64 0, .slice aA (frsh (dist L4) (IT st.kf) (fun _ => false)).length cA, .slice aB (frsh (dist L6) (IT st.kf) (inS (dist L4))).length cB] w (fun e w' => e = .returned (.bool true) ∧ Below w.heap.size w w') :=
  numb_call w a0 aA aB c0 cA cB kb kbb _ st.ks 0 L0 _ _ visR visW st.kf _ _ h.keys6 h.fix.l0 (Nat.le_trans (frsh_len _ _ _) h.nR) (Nat.le_trans (frsh_len _ _ _) h.nW) h.fix.ks (by omega) h.fix.f0 (frsh_fits h.fR _ _) (frsh_fits h.fW _ _) h.s0 SA SB h.tk h.tk0 h.fix.inK
theorem After.c27v {aA aB : Option Addr} (c0 cA cB : Nat) (SA : Strs w aA (frsh (texts (dist L4) fr tr) (IT st.vf) (fun _ => false))) (SB : Strs w aB (frsh (texts (dist L6) fw tw) (IT st.vf) (inS (texts (dist L4) fr tr)))) :
    Calls Try.prog 27 #[.map (some vb), .map (some vbb), .slice a2 L2.length c0, .int .i64 1, .slice aA (frsh (texts (dist L4) fr tr) (IT st.vf) (fun _ => false)).length cA, .slice aB (frsh (texts (dist L6) fw tw) (IT st.vf) (inS (texts (dist L4) fr tr))).length cB] w (fun e w' => e = .returned (.bool true) ∧ Below w.heap.size w w') :=
  numb_call w a2 aA aB c0 cA cB vb vbb _ st.vs 1 L2 _ _ _ _ st.vf _ _ h.vals6 h.fix.l2 (Nat.le_trans (frsh_len _ _ _) h.tRn) (Nat.le_trans (frsh_len _ _ _) h.tWn) h.fix.vs (by omega) h.fix.f2 (frsh_fits h.tR _ _) (frsh_fits h.tW _ _) h.s2 SA SB h.tv h.tv0 h.fix.inV
theorem After.c26 : Calls Try.prog 26 #[.pointer (some ⟨mb, 0, none⟩)] w (fun e w' => e = .returned (.int .i64 1) ∧ w' = w) := modelOps_any w mb 1 c _ h.m0
theorem After.vR : visR.length ≤ 1048576 := vis_len h.kr h.fix.l4 visR h.rn h.rk
theorem After.vW : visW.length ≤ 1048576 := vis_len h.kw h.fix.l6 visW h.wn h.wk
theorem After.c31 : Calls Try.prog 31 #[.pointer (some ⟨mb, 0, none⟩), .int .i64 0] w (fun e w' => RetOp w w' e visR.length visW.length (kOf (nout tr st visR)) (vOf (nout tr st visR)) (kOf (nout tw (nrun tr st visR) visW)) (vOf (nout tw (nrun tr st visR) visW)) ca re u) :=
  modelOp_any w mb ob qb c _ _ cr cw ar aw _ _ _ _ ca re u h.vR h.vW h.m0 h.o0 h.q0 h.q1 h.q2 h.q3 h.q4 h.pr h.pw
theorem After.c32r {a1 a2 : Option Addr} (c1 c2 c3 : Nat) (i1 : Ints w a1 visR.length (kOf (nout tr st visR))) (i2 : Ints w a2 visR.length (vOf (nout tr st visR))) :
    Calls Try.prog 32 #[.slice a1 visR.length c1, .slice a2 visR.length c2, .slice aR (dist L4).length c3, rv, .map (some kb), .map (some vb)] w (fun e w' => e = .returned (.bool true) ∧ Below w.heap.size w w') :=
  same_call B w a1 a2 aR c1 c2 c3 kb vb _ _ _ L4 visR _ _ rv fr tr sr _ h.kr h.fix.l4 h.fix.f4 rfl h.rn h.rk (nout_final tr _ _ visR st h.keys6.keep1 h.vals6.keep1) i1 i2 h.sR h.tk h.tv h.keys6.inR h.vals6.inR h.rgK h.rgV
theorem After.c32w {a1 a2 : Option Addr} (c1 c2 c3 : Nat) (i1 : Ints w a1 visW.length (kOf (nout tw (nrun tr st visR) visW))) (i2 : Ints w a2 visW.length (vOf (nout tw (nrun tr st visR) visW))) :
    Calls Try.prog 32 #[.slice a1 visW.length c1, .slice a2 visW.length c2, .slice aW (dist L6).length c3, wv, .map (some kb), .map (some vb)] w (fun e w' => e = .returned (.bool true) ∧ Below w.heap.size w w') :=
  same_call B w a1 a2 aW c1 c2 c3 kb vb _ _ _ L6 visW _ _ wv fw tw sw _ h.kw h.fix.l6 h.fix.f6 rfl h.wn h.wk (nout_final tw _ _ visW (nrun tr st visR) (fun _ _ e => e) (fun _ _ e => e)) i1 i2 h.sW h.tk h.tv h.keys6.inW h.vals6.inW h.rgK h.rgV

theorem After.c28a (cR : Nat) : Calls Try.prog 28 #[.slice aR (dist L4).length cR, .map (some kbb), .map none] w (fun e w' => RetStrs w w' e (frsh (dist L4) (IT st.kf) (fun _ => false))) :=
  fresh_any w aR cR kbb st.ks (dist L4) (IT st.kf) (.map none) (fun _ => false) h.nR h.fR h.sR h.tk0 (fun w' _ i _ => nil_look59 w' (h.fR i))
theorem After.c29a (cR : Nat) : Calls Try.prog 29 #[.slice aR (dist L4).length cR] w (fun e w' => e = .returned (.map (some w.heap.size)) ∧ Tab 9 slit w' w.heap.size (bf (nth (dist L4)) (fun _ => .bool true) (dist L4).length) (bs (nth (dist L4)) (fun _ => .bool true) (dist L4).length) ∧ Below w.heap.size w w') :=
  set_any w aR cR (dist L4) h.nR h.fR h.sR
theorem After.c28b (cW b s : Nat) (hT : Tab 9 slit w b (bf (nth (dist L4)) (fun _ => .bool true) (dist L4).length) s) : Calls Try.prog 28 #[.slice aW (dist L6).length cW, .map (some kbb), .map (some b)] w (fun e w' => RetStrs w w' e (frsh (dist L6) (IT st.kf) (inS (dist L4)))) :=
  fresh_any w aW cW kbb st.ks (dist L6) (IT st.kf) (.map (some b)) (inS (dist L4)) h.nW h.fW h.sW h.tk0 (fun w' hb i _ => set_look (hT.below hb) (h.fW i))
omit h in
theorem kv_vals {v : Value} {f : BA → Option Value} {tx : BA → Option BA} {L : List BA} {s : Nat} (k : Kv B w v f tx L s) (hL : L.length ≤ 1048576) (hf : Fits L) {a : Option Addr} (hs : Strs w a (dist L)) (c : Nat) :
    Calls Try.prog 30 #[.slice a (dist L).length c, v] w (fun e w' => RetStrs w w' e (texts (dist L) f tx)) := by
  have hin : ∀ i, i < (dist L).length → nth (dist L) i ∈ L := fun i hi => (dist_mem L _).1 (nth_mem hi)
  have e0 : ∀ k, k ≤ (dist L).length → acc (vG (fun i => pt f (nth (dist L) i)) (fun i => if i < (dist L).length then (tx (nth (dist L) i)).getD ByteArray.empty else ByteArray.empty)) k = acc (vG (fun i => pt f (nth (dist L) i)) (fun i => (tx (nth (dist L) i)).getD ByteArray.empty)) k := by
    intro k
    induction k with
    | zero => intro _; rfl
    | succ k ih =>
      intro hk
      have i1 := ih (by omega)
      unfold acc
      rw [i1]
      have : vG (fun i => pt f (nth (dist L) i)) (fun i => if i < (dist L).length then (tx (nth (dist L) i)).getD ByteArray.empty else ByteArray.empty) k = vG (fun i => pt f (nth (dist L) i)) (fun i => (tx (nth (dist L) i)).getD ByteArray.empty) k := by
        funext l
        exact vG_congr _ _ _ _ _ (if_pos (by omega))
      rw [this]
  have := distinctValues_any w a c (dist L) v (fun i => pt f (nth (dist L) i)) (fun i => if i < (dist L).length then (tx (nth (dist L) i)).getD ByteArray.empty else ByteArray.empty) (Nat.le_trans (dist_len L) hL) (fun i => by
      split
      · rename_i hi
        rcases k.txt (hin i hi) with ⟨_, e⟩ | ⟨ad, t, _, e, _, h4⟩
        · rw [e]; simp
        · rw [e]; exact h4
      · simp) hs (fun w' hb i _ => (k.below hb).look (dist_fits hf i)) (fun i hi x hx => by
      rw [if_pos hi]
      rcases k.txt (hin i hi) with ⟨e, _⟩ | ⟨ad, t, e1, e2, e3, e4⟩
      · rw [e] at hx; cases hx
      · rw [e1] at hx; cases hx; rw [e2]; exact e3)
  rw [e0 _ (Nat.le_refl _)] at this
  exact this
theorem After.c30r (c : Nat) : Calls Try.prog 30 #[.slice aR (dist L4).length c, rv] w (fun e w' => RetStrs w w' e (texts (dist L4) fr tr)) := kv_vals h.kr h.fix.l4 h.fix.f4 h.sR c
theorem After.c30w (c : Nat) : Calls Try.prog 30 #[.slice aW (dist L6).length c, wv] w (fun e w' => RetStrs w w' e (texts (dist L6) fw tw)) := kv_vals h.kw h.fix.l6 h.fix.f6 h.sW c
theorem After.c28c {a : Option Addr} (cR : Nat) (hs : Strs w a (texts (dist L4) fr tr)) : Calls Try.prog 28 #[.slice a (texts (dist L4) fr tr).length cR, .map (some vbb), .map none] w (fun e w' => RetStrs w w' e (frsh (texts (dist L4) fr tr) (IT st.vf) (fun _ => false))) :=
  fresh_any w a cR vbb st.vs (texts (dist L4) fr tr) (IT st.vf) (.map none) (fun _ => false) h.tRn h.tR hs h.tv0 (fun w' _ i _ => nil_look59 w' (h.tR i))
theorem After.c29c {a : Option Addr} (cR : Nat) (hs : Strs w a (texts (dist L4) fr tr)) : Calls Try.prog 29 #[.slice a (texts (dist L4) fr tr).length cR] w (fun e w' => e = .returned (.map (some w.heap.size)) ∧ Tab 9 slit w' w.heap.size (bf (nth (texts (dist L4) fr tr)) (fun _ => .bool true) (texts (dist L4) fr tr).length) (bs (nth (texts (dist L4) fr tr)) (fun _ => .bool true) (texts (dist L4) fr tr).length) ∧ Below w.heap.size w w') :=
  set_any w a cR (texts (dist L4) fr tr) h.tRn h.tR hs
theorem After.c28d {a : Option Addr} (cW b s : Nat) (hs : Strs w a (texts (dist L6) fw tw)) (hT : Tab 9 slit w b (bf (nth (texts (dist L4) fr tr)) (fun _ => .bool true) (texts (dist L4) fr tr).length) s) : Calls Try.prog 28 #[.slice a (texts (dist L6) fw tw).length cW, .map (some vbb), .map (some b)] w (fun e w' => RetStrs w w' e (frsh (texts (dist L6) fw tw) (IT st.vf) (inS (texts (dist L4) fr tr)))) :=
  fresh_any w a cW vbb st.vs (texts (dist L6) fw tw) (IT st.vf) (.map (some b)) (inS (texts (dist L4) fr tr)) h.tWn h.tW hs h.tv0 (fun w' hb i _ => set_look (hT.below hb) (h.tW i))
end

end Go.Proofs.Qxb6602268a.M
