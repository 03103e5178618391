/- assigns. -/
import Derived.Test.Qxb6602268aAsgKit
import Derived.Deep.RegionHeld3
import Derived.Test.Qxb6602268aSet
namespace Go.Proofs.Qxb6602268a.M
open Go.ChangeShapes Go.WideShapes Go.ChangeAt Go.RowKit Go.Maps
set_option linter.unusedVariables false

/-- the key x of the table f points to the text tx x -/
structure Txt (w : World) (f : ByteArray → Option Value) (tx : ByteArray → Option ByteArray) : Prop where
  at' : ∀ x v, f x = some v → (v = .pointer none ∧ tx x = none) ∨ ∃ ad t, v = .pointer (some ad) ∧ tx x = some t ∧ w.cell? ad = some (.string t) ∧ t.size ≤ maxLen

/-- assigns has come back with the pairs of the keys in the order vis -/
def RetAsg (w w' : World) (e : Ending) (kb vb : Nat) (f : ByteArray → Option Value) (tx : ByteArray → Option ByteArray) (st : NS) : Prop :=
  ∃ (vis : List ByteArray) (v : Value), e = .returned v ∧ vis.Nodup ∧ (∀ x, x ∈ vis ↔ (f x).isSome = true) ∧ Tab 9 slit w' kb (IT (nrun tx st vis).kf) (nrun tx st vis).ks ∧ Tab 9 slit w' vb (IT (nrun tx st vis).vf) (nrun tx st vis).vs ∧
    w'.ownsRow w.heap.size 91 2 v vis.length (flat (nout tx st vis)) ∧ Two w w' kb vb

theorem two_new (W : World) (x y : Value) (t : TypeId) {n : Nat} (hn : W.heap.size = n) : ∀ j u, [x, y][j]? = some u → (W.alloc (.cells #[x, y] t)).cell? ((⟨n, 0, none⟩ : Addr).add j) = some u := by
  subst hn
  intro j u hj
  match j, hj with
  | 0, hj => simp at hj; subst hj; simp [Addr.add]
  | 1, hj => simp at hj; subst hj; simp [Addr.add]
theorem two_one (a b : Int) : ∀ u ∈ [Value.int .i32 a, Value.int .i32 b], u.oneCell' = true := by
  intro u hu
  simp at hu
  rcases hu with rfl | rfl <;> rfl

/-- The relation behind a round. -/
theorem asg_step {w W w6 : World} {kb vb rb r s cnt' : Nat} {f : ByteArray → Option Value} {tx : ByteArray → Option ByteArray} {st sn : NS} {vis : List ByteArray} {x : ByteArray} {v v' : Value} {kv vv : Int} (hsn : sn = nrun tx st vis) (hrw : rb < w.heap.size) (hkw : kb < w.heap.size) (hvw : vb < w.heap.size)
    (hR : TabRange 9 slit W rb r f s (vis ++ [x]) cnt') (hlen : vis.length + 1 + cnt' ≤ s) (HI : vis.Nodup ∧ ∀ x ∈ vis, (f x).isSome = true) (hnx : x ∉ vis) (hfx : (f x).isSome = true) (hTK : Tab 9 slit W kb (IT (nstep tx sn x).kf) (nstep tx sn x).ks) (hTV : Tab 9 slit W vb (IT (nstep tx sn x).vf) (nstep tx sn x).vs)
    (hown : W.ownsRow w.heap.size 91 2 v vis.length (flat (nout tx st vis))) (hob : v.ownBlock ≠ some r) (h2 : Two w W kb vb) (hp : npair tx sn x = (kv, vv))
    (hown6 : w6.ownsRow w.heap.size 91 2 v' (vis.length + 1) (flat (nout tx st vis) ++ [.int .i32 kv, .int .i32 vv])) (hg6 : W.grownBy w6 v.ownBlock) (hb6 : v'.ownBlock = v.ownBlock ∨ v'.ownBlock = some W.heap.size) :
    ∃ (vis' : List ByteArray) (cnt : Nat), TabRange 9 slit w6 rb r f s vis' cnt ∧ vis'.length + cnt ≤ s ∧ vis'.Nodup ∧ (∀ x ∈ vis', (f x).isSome = true) ∧ Tab 9 slit w6 kb (IT (nrun tx st vis').kf) (nrun tx st vis').ks ∧ Tab 9 slit w6 vb (IT (nrun tx st vis').vf) (nrun tx st vis').vs ∧
    w6.ownsRow w.heap.size 91 2 v' vis'.length (flat (nout tx st vis')) ∧ v'.ownBlock ≠ some r ∧ Two w w6 kb vb := by
  refine ⟨vis ++ [x], cnt', hR.block hg6 (own_ne hown hrw) (fun e => hob e.symm), by simp; omega, ?_, ?_, ?_, ?_, ?_, ?_, h2.grown hg6 (fun j e => Or.inr (Or.inr (hown.lt j e).1))⟩
  · rw [List.nodup_append]
    refine ⟨HI.1, by simp, fun a ha b hb => ?_⟩
    simp at hb; subst hb
    exact fun e => hnx (e ▸ ha)
  · intro y hy
    rcases List.mem_append.1 hy with h | h
    · exact HI.2 y h
    · simp at h; subst h; exact hfx
  · rw [nrun_snoc, ← hsn]; exact hTK.grown hg6 (own_ne hown hkw)
  · rw [nrun_snoc, ← hsn]; exact hTV.grown hg6 (own_ne hown hvw)
  · rw [nout_snoc, ← hsn, hp, flat_snoc]; simpa using hown6
  · rcases hb6 with e | e
    · rw [e]; exact hob
    · rw [e]
      intro e2
      have := hR.lt
      simp only [Option.some.injEq] at e2
      omega

set_option maxRecDepth 100000 in
set_option maxHeartbeats 1600000 in
theorem assigns_some (w : World) (mb rb kb vb s : Nat) (f : ByteArray → Option Value) (tx : ByteArray → Option ByteArray) (st : NS) (hs : s ≤ 1048576) (hk : st.ks ≤ 2097152) (hv : st.vs ≤ 2097152)
    (m1 : w.cell? ⟨mb, 1, none⟩ = some (.map (some kb))) (m2 : w.cell? ⟨mb, 2, none⟩ = some (.map (some vb))) (TR : Tab 9 slit w rb f s) (TK : Tab 9 slit w kb (IT st.kf) st.ks) (TV : Tab 9 slit w vb (IT st.vf) st.vs)
    (hkr : kb ≠ rb) (hvr : vb ≠ rb) (hkv : kb ≠ vb) (ht : Txt w f tx) :
    Calls Try.prog 49 #[.pointer (some ⟨mb, 0, none⟩), .map (some rb)] w (fun e w' => RetAsg w w' e kb vb f tx st) := by
  have n1 : mb ≠ kb := TK.no_cell m1
  have n2 : mb ≠ vb := TV.no_cell m1
  have HR : Hid (Tab 9 slit w rb f s) := TR
  have HM : Hid (w.cell? ⟨mb, 1, none⟩ = some (.map (some kb)) ∧ w.cell? ⟨mb, 2, none⟩ = some (.map (some vb))) := ⟨m1, m2⟩
  have HT : Hid (Tab 9 slit w kb (IT st.kf) st.ks ∧ Tab 9 slit w vb (IT st.vf) st.vs) := ⟨TK, TV⟩
  have HX : Hid (Txt w f tx) := ht
  have hln : ∀ ty, _ := fun ty => TR.len Try.underlying46 ty
  obtain ⟨i0, hi, hz0, hz1, hz2⟩ := info_parts info91
  clear TR TK TV ht m1 m2
  go_enter Try.func49, Try.ntmps49
  go_wp2_with (first | (at_make; refine wpList_make_own _ rfl _ _ 72 rfl w.heap.size 91 i0 (.agg #[.int .i32 0, .int .i32 0]) 2 Try.underlying72 hi hz0 hz1 .i64 .i64 _ s rfl rfl rfl (by rw [hz2]; omega) (by unfold maxLen; omega) (by simp) ?_; intro w1 hown1 hg1) | (at_range; refine wp_tab_range strKind Try.underlying46 rfl _ rfl (HR.out.grown hg1 (by simp)) rfl ?_; intro w2 hR2 hg2 hs2))
  go_frame
  go_loopw [5] (fun v wr => ∃ (vis : List ByteArray) (cnt : Nat), TabRange 9 slit wr rb w1.heap.size f s vis cnt ∧ vis.length + cnt ≤ s ∧ vis.Nodup ∧ (∀ x ∈ vis, (f x).isSome = true) ∧ Tab 9 slit wr kb (IT (nrun tx st vis).kf) (nrun tx st vis).ks ∧ Tab 9 slit wr vb (IT (nrun tx st vis).vf) (nrun tx st vis).vs ∧
    wr.ownsRow w.heap.size 91 2 v vis.length (flat (nout tx st vis)) ∧ v.ownBlock ≠ some w1.heap.size ∧ Two w wr kb vb) (fun _ wr => wr.rangeLeft rb w1.heap.size)
  case atStart =>
    have hb1 := hown1.lt
    refine ⟨[], s, hR2, by simp, List.nodup_nil, by simp, (HT.out.1.grown hg1 (by simp)).grown hg2 (by simp), (HT.out.2.grown hg1 (by simp)).grown hg2 (by simp), by simpa [flat, nout] using hown1.kept hg2 (Or.inr (by simp [Value.ownBlock])), fun e => ?_, ((Two.refl _ _ _).grown hg1 (fun j e => by cases e)).grown hg2 (fun j e => by cases e)⟩
    have := (hb1 _ e).2
    omega
  case round =>
    obtain ⟨vis, cnt, hR, hlen, hnd, hin, hTK, hTV, hown, hob, h2⟩ := hrel
    have hmw : mb < w.heap.size := lt_of_cell HM.out.1
    have hrw : rb < w.heap.size := HR.out.lt
    have hkw : kb < w.heap.size := HT.out.1.lt
    have hvw : vb < w.heap.size := HT.out.2.lt
    have hw1 : w.heap.size ≤ w1.heap.size := hg1.size
    have hrl := hR.lt
    have bk := nrun_ks tx vis st
    have bv := nrun_vs tx vis st
    have HI : Hid (vis.Nodup ∧ ∀ x ∈ vis, (f x).isSome = true) := ⟨hnd, hin⟩
    clear hR2 hg2 hs2 hown1 hg1 hln hnd hin
    obtain ⟨sn, hsn⟩ : ∃ sn, sn = nrun tx st vis := ⟨_, rfl⟩
    rw [← hsn] at hTK hTV bk bv
    have HSN : Hid (sn = nrun tx st vis) := hsn
    clear hsn
    go_wp2_with (at_next; refine wp_tab_next strKind rfl _ rfl hR rfl ?_ ?_)
    · intro hdone
      go_wp2_with fail
      go_ret
      refine ⟨vis, _, rfl, HI.out.1, fun x => ⟨HI.out.2 x, hdone x⟩, ?_, ?_, hown, h2⟩
      · rw [← HSN.out]; exact hTK
      · rw [← HSN.out]; exact hTV
    · intro x v w3 cnt' hx hfx hnx hR3 hlt3 hg3 hs3 hen
      have hv3 : w3.rangeLeft rb w1.heap.size < wr.rangeLeft rb w1.heap.size := by rw [hR3.left_eq, hR.left_eq]; exact hlt3
      have m1 : w3.cell? ⟨mb, 1, none⟩ = some (.map (some kb)) := hg3.cell (h2.cell HM.out.1 n1 n2) (by simp; omega)
      have m2 : w3.cell? ⟨mb, 2, none⟩ = some (.map (some vb)) := hg3.cell (h2.cell HM.out.2 n1 n2) (by simp; omega)
      have hTK3 := hTK.grown hg3 (by simp; omega)
      have hTV3 := hTV.grown hg3 (by simp; omega)
      have hown3 := hown.kept hg3 (Or.inr hob)
      have h23 := h2.grown hg3 (fun j e => by cases e; exact Or.inr (Or.inr hw1))
      have CK := number_any w3 kb sn.ks 0 x sn.kf (by omega) (by omega) hx hTK3
      have HCK : Hid (Calls Try.prog 52 #[.map (some kb), .string x, .int .i32 0] w3 (fun e w' => e = .returned (.int .i32 (numV sn.kf sn.ks 0 x)) ∧ Tab 9 slit w' kb (IT (numF sn.kf sn.ks 0 x)) (numS sn.kf sn.ks x) ∧ w3.grownBy w' (some kb))) := CK
      clear CK
      rcases HX.out.at' x v hfx with ⟨rfl, htx⟩ | ⟨ad, t, rfl, htx, hcx, hts⟩
      · have hpr : npair tx sn x = (numV sn.kf sn.ks 0 x, 0) := by unfold npair; rw [htx]
        have est : nstep tx sn x = ⟨numF sn.kf sn.ks 0 x, numS sn.kf sn.ks x, sn.vf, sn.vs⟩ := by unfold nstep; rw [htx]
        have HP : Hid (npair tx sn x = (numV sn.kf sn.ks 0 x, 0) ∧ nstep tx sn x = ⟨numF sn.kf sn.ks 0 x, numS sn.kf sn.ks x, sn.vf, sn.vs⟩) := ⟨hpr, est⟩
        have HF : Hid ((f x).isSome = true) := by rw [hfx]; rfl
        clear hpr est htx hfx
        go_wp2_with (first | (go_at_call 52; refine HCK.out.mono ?_; clear HCK; rintro e w4 ⟨rfl, hT4, hg4⟩; have hown4 := hown3.kept hg4 (Or.inr (own_ne' hown3 hkw))) | (at_builtin; refine wpList_append_own_at _ rfl _ _ 72 rfl w.heap.size 91 i0 (.agg #[.int .i32 0, .int .i32 0]) 2 8 Try.underlying72 hi hz0 hz1 hz2 rfl (by decide) _ _ _ rfl ((hown4.alloc _).alloc _) ⟨w4.heap.size + 1, 0, none⟩ 1 1 [.int .i32 (numV sn.kf sn.ks 0 x), .int .i32 0] rfl rfl (two_new _ _ _ _ (by simp)) (two_one _ _) (by unfold maxLen; omega) (by omega) (by have := h23.size; have := hg4.size; simp; omega) ?_; intro v6 w6 hown6 hg6 hnil6 hb6))
        have hR5 := ((hR3.block hg4 (by simp; omega) (by simp; omega)).block (World.grownBy_alloc _ (.cells #[.int .i32 (numV sn.kf sn.ks 0 x), .int .i32 0] 91) none) (by simp) (by simp)).block (World.grownBy_alloc _ (.cells #[.int .i32 (numV sn.kf sn.ks 0 x), .int .i32 0] 91) none) (by simp) (by simp)
        have R := asg_step (kv := numV sn.kf sn.ks 0 x) (vv := 0) HSN.out hrw hkw hvw hR5 (by omega) HI.out hnx HF.out (by rw [HP.out.2]; exact (hT4.alloc _).alloc _) (by rw [HP.out.2]; exact ((hTV3.grown hg4 (by simp; omega)).alloc _).alloc _) ((hown4.alloc _).alloc _) hob (((h23.grown hg4 (fun j e => by cases e; exact Or.inl rfl)).alloc _).alloc _) HP.out.1 hown6 hg6 hb6
        have hR6 := hR5.block hg6 (own_ne hown4 hrw) (fun e => hob e.symm)
        have HM6 : Hid (w6.rangeLeft rb w1.heap.size < wr.rangeLeft rb w1.heap.size) := by
          have e1 := hR6.left_eq
          have e2 := hR.left_eq
          show _ < _
          omega
        go_wp2_with fail
        go_roundw
        case rel => exact R
        case measure => exact HM6.out
      · have hpr : npair tx sn x = (numV sn.kf sn.ks 0 x, numV sn.vf sn.vs 1 t) := by unfold npair; rw [htx]
        have est : nstep tx sn x = ⟨numF sn.kf sn.ks 0 x, numS sn.kf sn.ks x, numF sn.vf sn.vs 1 t, numS sn.vf sn.vs t⟩ := by unfold nstep; rw [htx]
        have HP : Hid (npair tx sn x = (numV sn.kf sn.ks 0 x, numV sn.vf sn.vs 1 t) ∧ nstep tx sn x = ⟨numF sn.kf sn.ks 0 x, numS sn.kf sn.ks x, numF sn.vf sn.vs 1 t, numS sn.vf sn.vs t⟩) := ⟨hpr, est⟩
        have HF : Hid ((f x).isSome = true) := by rw [hfx]; rfl
        have a1 : ad.block ≠ kb := HT.out.1.no_cell hcx
        have a2 : ad.block ≠ vb := HT.out.2.no_cell hcx
        have adw : ad.block < w.heap.size := lt_of_cell hcx
        have c3 : w3.cell? ad = some (.string t) := hg3.cell (h2.cell hcx a1 a2) (by simp; omega)
        clear hpr est htx hfx hcx
        go_wp2_with (go_at_call 52; refine HCK.out.mono ?_; clear HCK; rintro e w4 ⟨rfl, hT4, hg4⟩; have hown4 := hown3.kept hg4 (Or.inr (own_ne' hown3 hkw)); have m4 : w4.cell? ⟨mb, 2, none⟩ = some (.map (some vb)) := hg4.cell m2 (by simp; omega); have c4 : w4.cell? ad = some (.string t) := hg4.cell c3 (by simp; omega))
        obtain ⟨W, hW⟩ : ∃ W, W = w4.alloc (Obj.cells #[Value.int IntKind.i32 (numV sn.kf sn.ks 0 x), Value.int IntKind.i32 0] 91) := ⟨_, rfl⟩
        rw [← hW]
        have gW : w4.grownBy W none := by rw [hW]; exact World.grownBy_alloc _ _ _
        have zW : W.heap.size = w4.heap.size + 1 := by rw [hW]; simp
        have rW : W.rowIs w4.heap.size 91 2 (fun j => if j = 0 then .int .i32 (numV sn.kf sn.ks 0 x) else .int .i32 0) := by
          rw [hW]
          exact World.rowIs_alloc w4 #[.int .i32 (numV sn.kf sn.ks 0 x), .int .i32 0] 91 _ (fun i hi => by
            match i, hi with
            | 0, _ => rfl
            | 1, _ => rfl)
        have m5 : W.cell? ⟨mb, 2, none⟩ = some (.map (some vb)) := gW.cell m4 (by simp)
        have c5 : W.cell? ad = some (.string t) := gW.cell c4 (by simp)
        have z3 := h23.size
        have z4 := hg4.size
        clear hW m4 c4 m2 m1 c3 hen
        have gD : w4.grownBy W.drew none := ⟨gW.os, gW.tape, gW.output, gW.size, gW.block⟩
        have hownW : W.drew.ownsRow w.heap.size 91 2 u5 vis.length (flat (nout tx st vis)) := hown4.kept gD (Classical.em _)
        have hobl : ∀ k, u5.ownBlock = some k → k < w4.heap.size := fun k e => (hown4.lt k e).2
        have CV := number_any W.drew vb sn.vs 1 t sn.vf (by omega) (by omega) hts (show Tab 9 slit W vb _ _ from (hTV3.grown hg4 (by simp; omega)).grown gW (by simp))
        have HCV : Hid (Calls Try.prog 52 #[.map (some vb), .string t, .int .i32 1] W.drew (fun e w' => e = .returned (.int .i32 (numV sn.vf sn.vs 1 t)) ∧ Tab 9 slit w' vb (IT (numF sn.vf sn.vs 1 t)) (numS sn.vf sn.vs t) ∧ W.drew.grownBy w' (some vb))) := CV
        clear CV
        refine region_tail 7 (by kernel_rfl) (by kernel_rfl) ?_
        simp only [List.take_succ_cons, List.take_zero, List.drop_succ_cons, List.drop_zero]
        repeat still_step
        refine wpStill_nil ?_
        go_wp2_with (first | (go_at_call 52; refine HCV.out.mono ?_; clear HCV; rintro e w5 ⟨rfl, hT5, hg5⟩; have r5 : w5.rowIs w4.heap.size 91 2 (fun j => if j = 0 then .int .i32 (numV sn.kf sn.ks 0 x) else .int .i32 0) := World.rowIs.of_block rW (hg5.block w4.heap.size (by show _ < W.heap.size; omega) (by simp; omega)); have y0 : w5.cell? ⟨w4.heap.size, 0, none⟩ = some (.int .i32 (numV sn.kf sn.ks 0 x)) := r5.cell (i := 0) (by omega); have y1 : w5.cell? ⟨w4.heap.size, 1, none⟩ = some (.int .i32 0) := r5.cell (i := 1) (by omega); have y2 := r5.frozen 1; have y3 := r5.frozen 0; have gS : w5.grownBy (w5.setCell ⟨w4.heap.size, 1, none⟩ (.int .i32 (numV sn.vf sn.vs 1 t))) (some w4.heap.size) := grown_set (World.grownBy.refl _ _); have hown5 := (hownW.kept hg5 (Or.inr (own_ne' hownW hvw))).kept gS (Or.inr (fun e => absurd (hobl _ e) (Nat.lt_irrefl _)))) | (at_builtin; refine wpList_append_own_at _ rfl _ _ 72 rfl w.heap.size 91 i0 (.agg #[.int .i32 0, .int .i32 0]) 2 8 Try.underlying72 hi hz0 hz1 hz2 rfl (by decide) _ _ _ rfl (hown5.alloc _) ⟨w5.heap.size, 0, none⟩ 1 1 [.int .i32 (numV sn.kf sn.ks 0 x), .int .i32 (numV sn.vf sn.vs 1 t)] rfl rfl (two_new _ _ _ _ (by simp)) (two_one _ _) (by unfold maxLen; omega) (by omega) (by have := hg5.size; have : W.heap.size ≤ w5.heap.size := this; simp; omega) ?_; intro v6 w6 hown6 hg6 hnil6 hb6))
        have z5 : W.heap.size ≤ w5.heap.size := hg5.size
        have hRW : TabRange 9 slit W.drew rb w1.heap.size f s (vis ++ [x]) cnt' := (hR3.block hg4 (by simp; omega) (by simp; omega)).block gD (by simp) (by simp)
        have hR5 := ((hRW.block hg5 (by simp; omega) (by simp; omega)).block gS (by simp; omega) (by simp; omega)).block (World.grownBy_alloc _ (.cells #[.int .i32 (numV sn.kf sn.ks 0 x), .int .i32 (numV sn.vf sn.vs 1 t)] 91) none) (by simp) (by simp)
        have hTKW : Tab 9 slit W.drew kb (IT (numF sn.kf sn.ks 0 x)) (numS sn.kf sn.ks x) := hT4.grown gD (by simp)
        have h2W : Two w W.drew kb vb := (h23.grown hg4 (fun j e => by cases e; exact Or.inl rfl)).grown gD (fun j e => by cases e)
        have R := asg_step (kv := numV sn.kf sn.ks 0 x) (vv := numV sn.vf sn.vs 1 t) HSN.out hrw hkw hvw hR5 (by omega) HI.out hnx HF.out (by rw [HP.out.2]; exact ((hTKW.grown hg5 (by simp; omega)).grown gS (by simp; omega)).alloc _) (by rw [HP.out.2]; exact (hT5.grown gS (by simp; omega)).alloc _) (hown5.alloc _) hob (((h2W.grown hg5 (fun j e => by cases e; exact Or.inr (Or.inl rfl))).grown gS (fun j e => by cases e; exact Or.inr (Or.inr (by omega)))).alloc _) HP.out.1 hown6 hg6 hb6
        have hR6 := hR5.block hg6 (own_ne hown4 hrw) (fun e => hob e.symm)
        have HM6 : Hid (w6.rangeLeft rb w1.heap.size < wr.rangeLeft rb w1.heap.size) := by
          have e1 := hR6.left_eq
          have e2 := hR.left_eq
          show _ < _
          omega
        go_wp2_with fail
        go_roundw
        case rel => exact R
        case measure => exact HM6.out

end Go.Proofs.Qxb6602268a.M
