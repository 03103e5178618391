/- add. -/
import Derived.Test.Qxb6602268aAddKit
namespace Go.Proofs.Qxb6602268a.M
open Go.ChangeShapes Go.WideShapes Go.ChangeAt Go.RowKit Go.Maps
set_option linter.unusedVariables false
set_option linter.unusedSimpArgs false

theorem info71 : (Try.prog.info? 71).map (fun i => (i.zero, i.size, i.bytes)) = some (some (.pointer none), 1, 8) := by kernel_rfl

set_option maxRecDepth 100000 in
set_option maxHeartbeats 3200000 in
theorem add_known (w : World) (mb kb vb sr sw : Nat) (cl ca re : Int) (rv wv : Value) (oc : ByteArray) (fr fw : ByteArray → Option Value) (tr tw : ByteArray → Option ByteArray) (st : NS) (hsr : sr ≤ 1048576) (hsw : sw ≤ 1048576) (hk : st.ks ≤ 1048576) (hv : st.vs ≤ 1048576)
    (m0 : w.cell? ⟨mb, 0, none⟩ = some (.slice none 0 0)) (m1 : w.cell? ⟨mb, 1, none⟩ = some (.map (some kb))) (m2 : w.cell? ⟨mb, 2, none⟩ = some (.map (some vb))) (hfz : w.frozen? ⟨mb, 0, none⟩ = false)
    (TK : Tab 9 slit w kb (IT st.kf) st.ks) (TV : Tab 9 slit w vb (IT st.vf) st.vs) (TR : TxM w rv fr tr sr) (TW : TxM w wv fw tw sw) (hner : ∀ b, rv = .map (some b) → kb ≠ b ∧ vb ≠ b) (hnew : ∀ b, wv = .map (some b) → kb ≠ b ∧ vb ≠ b) (hkv : kb ≠ vb)
    (hlr : ∀ vis : List ByteArray, vis.Nodup → (∀ x, x ∈ vis ↔ (fr x).isSome = true) → vis.length ≤ 1048576)
    (ho1 : (oc.toList == [97, 98, 111, 114, 116, 101, 100]) = false) (ho2 : (oc.toList == [117, 110, 107, 110, 111, 119, 110]) = false) :
    Calls Try.prog 41 #[.pointer (some ⟨mb, 0, none⟩), .agg #[.int .i64 cl, .int .i64 ca, .int .i64 re, rv, wv, .string oc]] w (fun e w' => RetAdd w w' e kb vb mb fr fw tr tw st ca re false) := by
  have n1 : mb ≠ kb := TK.no_cell m0
  have n2 : mb ≠ vb := TV.no_cell m0
  have hmw : mb < w.heap.size := lt_of_cell m0
  have hkw : kb < w.heap.size := TK.lt
  have hvw : vb < w.heap.size := TV.lt
  have hln : ∀ (o : Obj) ty, (Builtin.len_ #[46] ty #[wv]).run Try.prog (w.alloc o) = .ok (.int .i64 sw) (w.alloc o) := fun o ty => (TW.below ((Below.refl _ _).alloc (Nat.le_refl _) o)).len ty
  obtain ⟨i0, hi, hz0, hz1, hz2⟩ := info_parts info71
  have HM : Hid (w.cell? ⟨mb, 0, none⟩ = some (.slice none 0 0) ∧ w.cell? ⟨mb, 1, none⟩ = some (.map (some kb)) ∧ w.cell? ⟨mb, 2, none⟩ = some (.map (some vb))) := ⟨m0, m1, m2⟩
  have HT : Hid (Tab 9 slit w kb (IT st.kf) st.ks ∧ Tab 9 slit w vb (IT st.vf) st.vs) := ⟨TK, TV⟩
  have HX : Hid (TxM w rv fr tr sr ∧ TxM w wv fw tw sw) := ⟨TR, TW⟩
  have HL : Hid (∀ vis : List ByteArray, vis.Nodup → (∀ x, x ∈ vis ↔ (fr x).isSome = true) → vis.length ≤ 1048576) := hlr
  have HFZ : Hid (w.frozen? ⟨mb, 0, none⟩ = false) := hfz
  clear m0 m1 m2 TK TV TR TW hlr hfz
  go_enter Try.func41, Try.ntmps41
  go_wp2_with fail
  clear hln
  obtain ⟨W, hW⟩ : ∃ W, W = w.alloc (Obj.cells #[Value.int IntKind.i64 cl, Value.int IntKind.i64 ca, Value.int IntKind.i64 re, rv, wv, Value.string oc] 54) := ⟨_, rfl⟩
  rw [← hW]
  have gW : w.grownBy W none := by rw [hW]; exact World.grownBy_alloc _ _ _
  have bW : Below w.heap.size w W.drew := ⟨gW.os, gW.tape, gW.output, gW.size, fun i hi => gW.block i hi (by simp)⟩
  have zW : W.heap.size = w.heap.size + 1 := by rw [hW]; simp
  have hS : (fun w' : World => w'.cell? ⟨mb, 0, none⟩ = some (.slice none 0 0) ∧ w'.cell? ⟨w.heap.size, 3, none⟩ = some rv ∧ w'.cell? ⟨w.heap.size, 4, none⟩ = some wv ∧ w'.cell? ⟨w.heap.size, 1, none⟩ = some (.int .i64 ca) ∧ w'.cell? ⟨w.heap.size, 2, none⟩ = some (.int .i64 re) ∧ w'.cell? ⟨w.heap.size, 5, none⟩ = some (.string oc)) W.drew := by
    refine ⟨(bW.cell hmw).trans HM.out.1, ?_, ?_, ?_, ?_, ?_⟩ <;> · show W.cell? _ = _; rw [hW]; simp
  refine wp_region_E 26 (fun w' : World => w'.cell? ⟨mb, 0, none⟩ = some (.slice none 0 0) ∧ w'.cell? ⟨w.heap.size, 3, none⟩ = some rv ∧ w'.cell? ⟨w.heap.size, 4, none⟩ = some wv ∧ w'.cell? ⟨w.heap.size, 1, none⟩ = some (.int .i64 ca) ∧ w'.cell? ⟨w.heap.size, 2, none⟩ = some (.int .i64 re) ∧ w'.cell? ⟨w.heap.size, 5, none⟩ = some (.string oc)) (by kernel_rfl) ?_
  refine wpAnyE_take (i := 0) (v := ?_) (some 18) rfl rfl (by kernel_rfl) (by kernel_rfl) (by kernel_rfl) (by kernel_rfl) (fun _ _ _ h => h) (Or.inl ⟨by rfl, ?_⟩) (by assumption) ?_
  rotate_left
  · intro w hSw; (try dsimp only at hSw); go_simp; try with_reducible rfl
  simp only [Act.put, List.setIfInBounds_toArray, List.set_cons_zero, List.set_cons_succ]
  refine wpAnyE_take (i := 1) (v := ?_) (some 19) rfl rfl (by kernel_rfl) (by kernel_rfl) (by kernel_rfl) (by kernel_rfl) (fun _ _ _ h => h) (Or.inl ⟨by rfl, ?_⟩) (by assumption) ?_
  rotate_left
  · intro w hSw; (try dsimp only at hSw); go_simp; try with_reducible rfl
  simp only [Act.put, List.setIfInBounds_toArray, List.set_cons_zero, List.set_cons_succ]
  refine wpAnyE_take (i := 2) (v := ?_) (some 20) rfl rfl (by kernel_rfl) (by kernel_rfl) (by kernel_rfl) (by kernel_rfl) (fun _ _ _ h => h) (Or.inl ⟨by rfl, ?_⟩) (by assumption) ?_
  rotate_left
  · intro w hSw; (try dsimp only at hSw); go_simp; try with_reducible rfl
  simp only [Act.put, List.setIfInBounds_toArray, List.set_cons_zero, List.set_cons_succ]
  refine wpAnyE_take (i := 3) (v := ?_) (some 21) rfl rfl (by kernel_rfl) (by kernel_rfl) (by kernel_rfl) (by kernel_rfl) (fun _ _ _ h => h) (Or.inl ⟨by rfl, ?_⟩) (by assumption) ?_
  rotate_left
  · intro w hSw; (try dsimp only at hSw); go_simp; try with_reducible rfl
  simp only [Act.put, List.setIfInBounds_toArray, List.set_cons_zero, List.set_cons_succ]
  refine wpAnyE_take (i := 4) (v := ?_) (some 22) rfl rfl (by kernel_rfl) (by kernel_rfl) (by kernel_rfl) (by kernel_rfl) (fun _ _ _ h => h) (Or.inl ⟨by rfl, ?_⟩) (by assumption) ?_
  rotate_left
  · intro w hSw; (try dsimp only at hSw); go_simp; try with_reducible rfl
  simp only [Act.put, List.setIfInBounds_toArray, List.set_cons_zero, List.set_cons_succ]
  refine wpAnyE_take (i := 5) (v := ?_) (some 23) rfl rfl (by kernel_rfl) (by kernel_rfl) (by kernel_rfl) (by kernel_rfl) (fun _ _ _ h => h) (Or.inl ⟨by rfl, ?_⟩) (by assumption) ?_
  rotate_left
  · intro w hSw; (try dsimp only at hSw); go_simp; try with_reducible rfl
  simp only [Act.put, List.setIfInBounds_toArray, List.set_cons_zero, List.set_cons_succ]
  refine wpAnyE_take (i := 6) (v := ?_) (some 24) rfl rfl (by kernel_rfl) (by kernel_rfl) (by kernel_rfl) (by kernel_rfl) (fun _ _ _ h => h) (Or.inl ⟨by rfl, ?_⟩) (by assumption) ?_
  rotate_left
  · intro w hSw; (try dsimp only at hSw); go_simp; try with_reducible rfl
  simp only [Act.put, List.setIfInBounds_toArray, List.set_cons_zero, List.set_cons_succ]
  refine wpAnyE_take (i := 7) (v := ?_) (some 25) rfl rfl (by kernel_rfl) (by kernel_rfl) (by kernel_rfl) (by kernel_rfl) (fun _ _ _ h => h) (Or.inl ⟨by rfl, ?_⟩) (by assumption) ?_
  rotate_left
  · intro w hSw; (try dsimp only at hSw); go_simp; try with_reducible rfl
  simp only [Act.put, List.setIfInBounds_toArray, List.set_cons_zero, List.set_cons_succ]
  refine wpAnyE_take (i := 9) (v := ?_) (some 27) rfl rfl (by kernel_rfl) (by kernel_rfl) (by kernel_rfl) (by kernel_rfl) (fun _ _ _ h => h) (Or.inl ⟨by rfl, ?_⟩) (by assumption) ?_
  rotate_left
  · intro w hSw; (try dsimp only at hSw); go_simp; try with_reducible rfl
  simp only [Act.put, List.setIfInBounds_toArray, List.set_cons_zero, List.set_cons_succ]
  refine wpAnyE_take (i := 10) (v := ?_) (some 28) rfl rfl (by kernel_rfl) (by kernel_rfl) (by kernel_rfl) (by kernel_rfl) (fun _ _ _ h => h) (Or.inl ⟨by rfl, ?_⟩) (by assumption) ?_
  rotate_left
  · intro w hSw; (try dsimp only at hSw); go_simp; try with_reducible rfl
  simp only [Act.put, List.setIfInBounds_toArray, List.set_cons_zero, List.set_cons_succ]
  refine wpAnyE_take (i := 11) (v := ?_) (some 29) rfl rfl (by kernel_rfl) (by kernel_rfl) (by kernel_rfl) (by kernel_rfl) (fun _ _ _ h => h) (Or.inl ⟨by rfl, ?_⟩) (by assumption) ?_
  rotate_left
  · intro w hSw; (try dsimp only at hSw); go_simp; try with_reducible rfl
  simp only [Act.put, List.setIfInBounds_toArray, List.set_cons_zero, List.set_cons_succ]
  refine wpAnyE_take (i := 13) (v := ?_) (some 31) rfl rfl (by kernel_rfl) (by kernel_rfl) (by kernel_rfl) (by kernel_rfl) (fun _ _ _ h => h) (Or.inl ⟨by rfl, ?_⟩) (by assumption) ?_
  rotate_left
  · intro w hSw; (try dsimp only at hSw); go_simp; try with_reducible rfl
  simp only [Act.put, List.setIfInBounds_toArray, List.set_cons_zero, List.set_cons_succ]
  refine wpAnyE_take (i := 14) (v := ?_) (some 32) rfl rfl (by kernel_rfl) (by kernel_rfl) (by kernel_rfl) (by kernel_rfl) (fun _ _ _ h => h) (Or.inl ⟨by rfl, ?_⟩) (by assumption) ?_
  rotate_left
  · intro w hSw; (try dsimp only at hSw); go_simp; try with_reducible rfl
  simp only [Act.put, List.setIfInBounds_toArray, List.set_cons_zero, List.set_cons_succ]
  refine wpAnyE_take (i := 15) (v := ?_) (some 33) rfl rfl (by kernel_rfl) (by kernel_rfl) (by kernel_rfl) (by kernel_rfl) (fun _ _ _ h => h) (Or.inl ⟨by rfl, ?_⟩) (by assumption) ?_
  rotate_left
  · intro w hSw; (try dsimp only at hSw); go_simp; try with_reducible rfl
  simp only [Act.put, List.setIfInBounds_toArray, List.set_cons_zero, List.set_cons_succ]
  refine wpAnyE_take (i := 16) (v := ?_) (some 34) rfl rfl (by kernel_rfl) (by kernel_rfl) (by kernel_rfl) (by kernel_rfl) (fun _ _ _ h => h) (Or.inl ⟨by rfl, ?_⟩) (by assumption) ?_
  rotate_left
  · intro w hSw; (try dsimp only at hSw); go_simp; try with_reducible rfl
  simp only [Act.put, List.setIfInBounds_toArray, List.set_cons_zero, List.set_cons_succ]
  refine wpAnyE_take (i := 17) (v := ?_) (some 35) rfl rfl (by kernel_rfl) (by kernel_rfl) (by kernel_rfl) (by kernel_rfl) (fun _ _ _ h => h) (Or.inl ⟨by rfl, ?_⟩) (by assumption) ?_
  rotate_left
  · intro w hSw; (try dsimp only at hSw); go_simp; try with_reducible rfl
  simp only [Act.put, List.setIfInBounds_toArray, List.set_cons_zero, List.set_cons_succ]
  refine wpAnyE_take (i := 18) (v := ?_) (some 36) rfl rfl (by kernel_rfl) (by kernel_rfl) (by kernel_rfl) (by kernel_rfl) (fun _ _ _ h => h) (Or.inl ⟨by rfl, ?_⟩) (by assumption) ?_
  rotate_left
  · intro w hSw; (try dsimp only at hSw); go_simp; try with_reducible rfl
  simp only [Act.put, List.setIfInBounds_toArray, List.set_cons_zero, List.set_cons_succ]
  refine wpAnyE_take (i := 19) (v := ?_) (some 37) rfl rfl (by kernel_rfl) (by kernel_rfl) (by kernel_rfl) (by kernel_rfl) (fun _ _ _ h => h) (Or.inl ⟨by rfl, ?_⟩) (by assumption) ?_
  rotate_left
  · intro w hSw; (try dsimp only at hSw); go_simp; try with_reducible rfl
  simp only [Act.put, List.setIfInBounds_toArray, List.set_cons_zero, List.set_cons_succ]
  have hTK0 := HT.out.1.below bW
  have hTV0 := HT.out.2.below bW
  have stepS : ∀ w1 w2 : World, (∀ i, i < w1.heap.size → i ≠ kb → i ≠ vb → w2.heap[i]? = w1.heap[i]?) → (fun w' : World => w'.cell? ⟨mb, 0, none⟩ = some (.slice none 0 0) ∧ w'.cell? ⟨w.heap.size, 3, none⟩ = some rv ∧ w'.cell? ⟨w.heap.size, 4, none⟩ = some wv ∧ w'.cell? ⟨w.heap.size, 1, none⟩ = some (.int .i64 ca) ∧ w'.cell? ⟨w.heap.size, 2, none⟩ = some (.int .i64 re) ∧ w'.cell? ⟨w.heap.size, 5, none⟩ = some (.string oc)) w1 → (fun w' : World => w'.cell? ⟨mb, 0, none⟩ = some (.slice none 0 0) ∧ w'.cell? ⟨w.heap.size, 3, none⟩ = some rv ∧ w'.cell? ⟨w.heap.size, 4, none⟩ = some wv ∧ w'.cell? ⟨w.heap.size, 1, none⟩ = some (.int .i64 ca) ∧ w'.cell? ⟨w.heap.size, 2, none⟩ = some (.int .i64 re) ∧ w'.cell? ⟨w.heap.size, 5, none⟩ = some (.string oc)) w2 := by
    intro w1 w2 hb ⟨h1, h2, h3, h4, h5, h6⟩
    have q : ∀ (a : Addr) (v : Value), w1.cell? a = some v → a.block ≠ kb → a.block ≠ vb → w2.cell? a = some v := fun a v h n1 n2 => (World.cell?_of_block (hb _ (lt_of_cell h) n1 n2)).trans h
    exact ⟨q _ _ h1 n1 n2, q _ _ h2 (by simp; omega) (by simp; omega), q _ _ h3 (by simp; omega) (by simp; omega), q _ _ h4 (by simp; omega) (by simp; omega), q _ _ h5 (by simp; omega) (by simp; omega), q _ _ h6 (by simp; omega) (by simp; omega)⟩
  have HSt : Hid (∀ w1 w2 : World, (∀ i, i < w1.heap.size → i ≠ kb → i ≠ vb → w2.heap[i]? = w1.heap[i]?) → (fun w' : World => w'.cell? ⟨mb, 0, none⟩ = some (.slice none 0 0) ∧ w'.cell? ⟨w.heap.size, 3, none⟩ = some rv ∧ w'.cell? ⟨w.heap.size, 4, none⟩ = some wv ∧ w'.cell? ⟨w.heap.size, 1, none⟩ = some (.int .i64 ca) ∧ w'.cell? ⟨w.heap.size, 2, none⟩ = some (.int .i64 re) ∧ w'.cell? ⟨w.heap.size, 5, none⟩ = some (.string oc)) w1 → (fun w' : World => w'.cell? ⟨mb, 0, none⟩ = some (.slice none 0 0) ∧ w'.cell? ⟨w.heap.size, 3, none⟩ = some rv ∧ w'.cell? ⟨w.heap.size, 4, none⟩ = some wv ∧ w'.cell? ⟨w.heap.size, 1, none⟩ = some (.int .i64 ca) ∧ w'.cell? ⟨w.heap.size, 2, none⟩ = some (.int .i64 re) ∧ w'.cell? ⟨w.heap.size, 5, none⟩ = some (.string oc)) w2) := stepS
  have HSW : Hid ((fun w' : World => w'.cell? ⟨mb, 0, none⟩ = some (.slice none 0 0) ∧ w'.cell? ⟨w.heap.size, 3, none⟩ = some rv ∧ w'.cell? ⟨w.heap.size, 4, none⟩ = some wv ∧ w'.cell? ⟨w.heap.size, 1, none⟩ = some (.int .i64 ca) ∧ w'.cell? ⟨w.heap.size, 2, none⟩ = some (.int .i64 re) ∧ w'.cell? ⟨w.heap.size, 5, none⟩ = some (.string oc)) W.drew) := hS
  have HW : Hid (w.grownBy W none ∧ Below w.heap.size w W.drew) := ⟨gW, bW⟩
  clear stepS hS hW gW bW
  have zD : W.drew.heap.size = w.heap.size + 1 := zW
  refine wpAnyE_one (i := 8) rfl (by kernel_rfl) ?_
  intro K1 hK1
  go_simp
  go_at_call 49
  refine (assigns_any W.drew mb kb vb sr rv fr tr st hsr (by omega) (by omega) ((HW.out.2.cell hmw).trans HM.out.2.1) ((HW.out.2.cell hmw).trans HM.out.2.2) (HX.out.1.below HW.out.2) hTK0 hTV0 hner hkv).mono ?_
  rintro e w1 ⟨visR, v1, rfl, rn, rk, TK1, TV1, own1, two1⟩
  have hvR := HL.out visR rn rk
  obtain ⟨ar, cr, rfl, pr1, hbr⟩ := prs_of_own (nout_length tr visR st) own1
  have hS1 := HSt.out W.drew w1 two1.block HSW.out
  refine hK1.out _ _ (.inr hS1) ?_
  clear hK1 K1
  try simp only [Act.put, List.setIfInBounds_toArray, List.set_cons_zero, List.set_cons_succ]
  have bk := nrun_ks tr visR st
  have bv := nrun_vs tr visR st
  have cm1 : w1.cell? ⟨mb, 1, none⟩ = some (.map (some kb)) := two1.cell ((HW.out.2.cell hmw).trans HM.out.2.1) n1 n2
  have cm2 : w1.cell? ⟨mb, 2, none⟩ = some (.map (some vb)) := two1.cell ((HW.out.2.cell hmw).trans HM.out.2.2) n1 n2
  have CW := assigns_any w1 mb kb vb sw wv fw tw (nrun tr st visR) hsw (by omega) (by omega) cm1 cm2 ((HX.out.2.below HW.out.2).two hnew two1 hTK0 hTV0) TK1 TV1 hnew hkv
  have HS1 : Hid ((fun w' : World => w'.cell? ⟨mb, 0, none⟩ = some (.slice none 0 0) ∧ w'.cell? ⟨w.heap.size, 3, none⟩ = some rv ∧ w'.cell? ⟨w.heap.size, 4, none⟩ = some wv ∧ w'.cell? ⟨w.heap.size, 1, none⟩ = some (.int .i64 ca) ∧ w'.cell? ⟨w.heap.size, 2, none⟩ = some (.int .i64 re) ∧ w'.cell? ⟨w.heap.size, 5, none⟩ = some (.string oc)) w1) := hS1
  clear hS1
  refine wpAnyE_one (i := 12) rfl (by kernel_rfl) ?_
  intro K1 hK1
  have HCW : Hid (Calls Try.prog 49 #[.pointer (some ⟨mb, 0, none⟩), wv] w1 (fun e w' => RetAsg w1 w' e kb vb fw tw (nrun tr st visR))) := CW
  clear CW cm1 cm2
  go_simp
  go_at_call 49
  refine HCW.out.mono ?_
  clear HCW
  rintro e w2 ⟨visW, v2, rfl, wn, wk, TK2, TV2, own2, two2⟩
  obtain ⟨aw, cw, rfl, pw2, hbw⟩ := prs_of_own (nout_length tw visW (nrun tr st visR)) own2
  have hS2 := HSt.out w1 w2 two2.block HS1.out
  refine hK1.out _ _ (.inr hS2) ?_
  clear hK1 K1
  try simp only [Act.put, List.setIfInBounds_toArray, List.set_cons_zero, List.set_cons_succ]
  have z1 : w.heap.size + 1 ≤ w1.heap.size := by have := two1.size; omega
  have z2 := two2.size
  have HS2 : Hid ((fun w' : World => w'.cell? ⟨mb, 0, none⟩ = some (.slice none 0 0) ∧ w'.cell? ⟨w.heap.size, 3, none⟩ = some rv ∧ w'.cell? ⟨w.heap.size, 4, none⟩ = some wv ∧ w'.cell? ⟨w.heap.size, 1, none⟩ = some (.int .i64 ca) ∧ w'.cell? ⟨w.heap.size, 2, none⟩ = some (.int .i64 re) ∧ w'.cell? ⟨w.heap.size, 5, none⟩ = some (.string oc)) w2) := hS2
  clear hS2
  have pr2 := pr1.block (w' := w2) (fun b ha hb => two2.block b hb (by have := hbr b 0 ha; omega) (by have := hbr b 0 ha; omega))
  have two02 : Two W.drew w2 kb vb := two1.trans two2
  have HP : Hid (Prs w2 ar visR.length (kOf (nout tr st visR)) (vOf (nout tr st visR)) ∧ Prs w2 aw visW.length (kOf (nout tw (nrun tr st visR) visW)) (vOf (nout tw (nrun tr st visR) visW))) := ⟨pr2, pw2⟩
  clear pr1 pr2 pw2 own1 own2 two1 TK1 TV1
  refine wpAnyE_one (i := 20) rfl (by kernel_rfl) ?_
  intro K1 hK1
  go_simp
  refine hK1.out _ _ (.inr HS2.out) ?_
  clear hK1 K1
  try simp only [Act.put, List.setIfInBounds_toArray, List.set_cons_zero, List.set_cons_succ]
  refine wpAnyE_one (i := 21) rfl (by kernel_rfl) ?_
  intro K1 hK1
  go_simp
  obtain ⟨W3, hW3⟩ : ∃ W3, W3 = w2.alloc (Obj.cells #[.slice ar visR.length cr, .slice aw visW.length cw, .int .i64 ca, .int .i64 re, .bool false] 75) := ⟨_, rfl⟩
  rw [← hW3]
  have g3 : w2.grownBy W3 none := by rw [hW3]; exact World.grownBy_alloc _ _ _
  have z3 : W3.heap.size = w2.heap.size + 1 := by rw [hW3]; simp
  have q3 : W3.cell? ⟨w2.heap.size, 0, none⟩ = some (.slice ar visR.length cr) ∧ W3.cell? ⟨w2.heap.size, 1, none⟩ = some (.slice aw visW.length cw) ∧ W3.cell? ⟨w2.heap.size, 2, none⟩ = some (.int .i64 ca) ∧ W3.cell? ⟨w2.heap.size, 3, none⟩ = some (.int .i64 re) ∧ W3.cell? ⟨w2.heap.size, 4, none⟩ = some (.bool false) := by
    rw [hW3]; refine ⟨?_, ?_, ?_, ?_, ?_⟩ <;> simp
  have hS3 := HSt.out w2 W3 (fun i hi _ _ => g3.block i hi (by simp)) HS2.out
  refine hK1.out _ _ (.inr hS3) ?_
  clear hK1 K1 hW3
  have HS3 : Hid ((fun w' : World => w'.cell? ⟨mb, 0, none⟩ = some (.slice none 0 0) ∧ w'.cell? ⟨w.heap.size, 3, none⟩ = some rv ∧ w'.cell? ⟨w.heap.size, 4, none⟩ = some wv ∧ w'.cell? ⟨w.heap.size, 1, none⟩ = some (.int .i64 ca) ∧ w'.cell? ⟨w.heap.size, 2, none⟩ = some (.int .i64 re) ∧ w'.cell? ⟨w.heap.size, 5, none⟩ = some (.string oc)) W3) := hS3
  have HQ3 : Hid (W3.cell? ⟨w2.heap.size, 0, none⟩ = some (.slice ar visR.length cr) ∧ W3.cell? ⟨w2.heap.size, 1, none⟩ = some (.slice aw visW.length cw) ∧ W3.cell? ⟨w2.heap.size, 2, none⟩ = some (.int .i64 ca) ∧ W3.cell? ⟨w2.heap.size, 3, none⟩ = some (.int .i64 re) ∧ W3.cell? ⟨w2.heap.size, 4, none⟩ = some (.bool false)) := q3
  clear hS3 q3
  try simp only [Act.put, List.setIfInBounds_toArray, List.set_cons_zero, List.set_cons_succ]
  refine wpAnyE_one (i := 22) rfl (by kernel_rfl) ?_
  intro K1 hK1
  go_simp
  obtain ⟨W4, hW4⟩ : ∃ W4, W4 = W3.alloc (Obj.cells #[.pointer (some ⟨w2.heap.size, 0, none⟩)] 71) := ⟨_, rfl⟩
  rw [← hW4]
  have g4 : W3.grownBy W4 none := by rw [hW4]; exact World.grownBy_alloc _ _ _
  have z4 : W4.heap.size = W3.heap.size + 1 := by rw [hW4]; simp
  have q4 : W4.cell? ⟨w2.heap.size + 1, 0, none⟩ = some (.pointer (some ⟨w2.heap.size, 0, none⟩)) := by rw [hW4, ← z3]; simp
  have hS4 := HSt.out W3 W4 (fun i hi _ _ => g4.block i hi (by simp)) HS3.out
  refine hK1.out _ _ (.inr hS4) ?_
  clear hK1 K1 hW4
  have HS4 : Hid ((fun w' : World => w'.cell? ⟨mb, 0, none⟩ = some (.slice none 0 0) ∧ w'.cell? ⟨w.heap.size, 3, none⟩ = some rv ∧ w'.cell? ⟨w.heap.size, 4, none⟩ = some wv ∧ w'.cell? ⟨w.heap.size, 1, none⟩ = some (.int .i64 ca) ∧ w'.cell? ⟨w.heap.size, 2, none⟩ = some (.int .i64 re) ∧ w'.cell? ⟨w.heap.size, 5, none⟩ = some (.string oc)) W4) := hS4
  clear hS4
  try simp only [Act.put, List.setIfInBounds_toArray, List.set_cons_zero, List.set_cons_succ]
  refine wpAnyE_one (i := 23) rfl (by kernel_rfl) ?_
  intro K1 hK1
  rw [if_pos (by rfl)]
  refine wp_append_own W4 _ _ 68 rfl W4.heap.size 71 i0 (.pointer none) 1 8 Try.underlying68 hi hz0 hz1 hz2 rfl (by decide) (.slice none 0 0) 0 [] rfl (World.ownsRow_nil _ _ _ _) ⟨w2.heap.size + 1, 0, none⟩ 1 1 [.pointer (some ⟨w2.heap.size, 0, none⟩)] rfl rfl (fun j u hj => by
    match j, hj with
    | 0, hj => simp at hj; subst hj; exact q4) (fun u hu => by simp at hu; subst hu; rfl) (by unfold maxLen; omega) (by omega) (Nat.le_refl _) ?_
  intro v5 w5 own5 g5 nil5
  have hS5 := HSt.out W4 w5 (fun i hi _ _ => g5.block i hi (by simp [Value.ownBlock])) HS4.out
  refine hK1.out _ _ (.inr hS5) ?_
  clear hK1 K1
  try simp only [Act.put, List.setIfInBounds_toArray, List.set_cons_zero, List.set_cons_succ]
  rcases own5.2 with ⟨rfl, h0⟩ | ⟨ob, c, cur, rfl, o1, o2, o3, o4, o5, o6⟩
  · exact absurd h0 (by decide)
  have c5 : w5.cell? ⟨ob, 0, none⟩ = some (.pointer (some ⟨w2.heap.size, 0, none⟩)) := by simpa [Addr.add] using own5.cells (g := ob) rfl 0 _ rfl
  have hob : ob < w5.heap.size := (own5.lt ob rfl).2
  have g35 : W3.grownBy w5 none := g4.trans g5
  have hmb5 : w5.cell? ⟨mb, 0, none⟩ = some (.slice none 0 0) := hS5.1
  have HS5 : Hid ((fun w' : World => w'.cell? ⟨mb, 0, none⟩ = some (.slice none 0 0) ∧ w'.cell? ⟨w.heap.size, 3, none⟩ = some rv ∧ w'.cell? ⟨w.heap.size, 4, none⟩ = some wv ∧ w'.cell? ⟨w.heap.size, 1, none⟩ = some (.int .i64 ca) ∧ w'.cell? ⟨w.heap.size, 2, none⟩ = some (.int .i64 re) ∧ w'.cell? ⟨w.heap.size, 5, none⟩ = some (.string oc)) w5) := hS5
  have fz5 : w5.frozen? ⟨mb, 0, none⟩ = false := by
    rw [World.frozen?_of_block (w := W3) (g35.block mb (by omega) (by simp)), World.frozen?_of_block (w := w2) (g3.block mb (by omega) (by simp)), World.frozen?_of_block (w := W.drew) (two02.block mb (by omega) n1 n2), World.frozen?_of_block (w := w) (HW.out.2.block mb hmw)]
    exact HFZ.out
  have HO5 : Hid (w5.ownsRow W4.heap.size 71 1 (.slice (some ⟨ob, 0, none⟩) 1 c) 1 [.pointer (some ⟨w2.heap.size, 0, none⟩)]) := own5
  clear hS5 own5 o2 o6 q4 nil5
  refine wpAnyE_one (i := 24) rfl (by kernel_rfl) ?_
  intro K1 hK1
  go_simp
  refine hK1.out _ _ (.inr HS5.out) ?_
  clear hK1 K1
  try simp only [Act.put, List.setIfInBounds_toArray, List.set_cons_zero, List.set_cons_succ]
  refine wpAnyE_one (i := 25) rfl (by kernel_rfl) ?_
  intro K1 hK1
  go_simp
  refine hK1.out _ _ (.inr HS5.out) ?_
  clear hK1 K1
  try simp only [Act.put, List.setIfInBounds_toArray, List.set_cons_zero, List.set_cons_succ]
  refine wpAnyE_one (i := 26) rfl (by kernel_rfl) ?_
  intro K1 hK1
  go_simp
  refine hK1.out _ _ (.inl rfl) ?_
  clear hK1 K1
  try simp only [Act.put, List.setIfInBounds_toArray, List.set_cons_zero, List.set_cons_succ]
  refine wpAnyE_done (by kernel_rfl) ?_ _
  go_wp2_with fail
  refine bodyPost_end (v := .tuple #[]) (by simp [results, Try.results41, go_sem]) rfl ?_
  obtain ⟨w6, hw6⟩ : ∃ w6, w6 = w5.setCell ⟨mb, 0, none⟩ (.slice (some ⟨ob, 0, none⟩) 1 c) := ⟨_, rfl⟩
  rw [← hw6]
  have k6 : ∀ i, i ≠ mb → w6.heap[i]? = w5.heap[i]? := fun i hi => by rw [hw6]; exact Deep.blk_setCell_other _ _ _ _ (by simpa using hi)
  have k3 : ∀ i, i < W3.heap.size → i ≠ mb → w6.heap[i]? = W3.heap[i]? := fun i h1 h2 => (k6 i h2).trans (g35.block i h1 (by simp))
  have k2 : ∀ i, i < w2.heap.size → i ≠ mb → w6.heap[i]? = w2.heap[i]? := fun i h1 h2 => (k3 i (by omega) h2).trans (g3.block i h1 (by simp))
  have kc : ∀ i, w6.cell? ⟨w2.heap.size, i, none⟩ = W3.cell? ⟨w2.heap.size, i, none⟩ := fun i => World.cell?_of_block (k3 w2.heap.size (by omega) (by omega))
  have k5 : ∀ i, i ≠ 0 → w6.cell? ⟨mb, i, none⟩ = w5.cell? ⟨mb, i, none⟩ := fun i hi => by rw [hw6]; exact World.cell?_setCell_other _ _ _ _ (fun e => by cases e; exact hi rfl)
  have km : ∀ i v, w.cell? ⟨mb, i, none⟩ = some v → w5.cell? ⟨mb, i, none⟩ = some v := fun i v h => by
    rw [World.cell?_of_block (w := W3) (g35.block mb (by omega) (by simp)), World.cell?_of_block (w := w2) (g3.block mb (by omega) (by simp))]
    exact two02.cell ((HW.out.2.cell hmw).trans h) n1 n2
  have thr : Thr W.drew w5 kb vb mb := ((two02.thr mb).grown g3 (fun j e => by cases e)).grown g35 (fun j e => by cases e)
  refine ⟨⟨_, rfl⟩, visR, visW, ob, w2.heap.size, c, ar, aw, cr, cw, ?_⟩
  exact {
    rn := rn, rk := rk, wn := wn, wk := wk
    tk := TK2.block (k2 kb (by omega) (Ne.symm n1))
    tv := TV2.block (k2 vb (by omega) (Ne.symm n2))
    m0 := by rw [hw6]; exact World.cell?_setCell_same' _ _ _ (by rw [hmb5]; rfl)
    m1 := (k5 1 (by decide)).trans (km 1 _ HM.out.2.1)
    m2 := (k5 2 (by decide)).trans (km 2 _ HM.out.2.2)
    o0 := (World.cell?_of_block (k6 ob (by omega))).trans c5
    q0 := (kc 0).trans HQ3.out.1
    q1 := (kc 1).trans HQ3.out.2.1
    q2 := (kc 2).trans HQ3.out.2.2.1
    q3 := (kc 3).trans HQ3.out.2.2.2.1
    q4 := (kc 4).trans HQ3.out.2.2.2.2
    pr := HP.out.1.block (fun b ha hb => k2 b hb (by have := hbr b 0 ha; omega))
    pw := HP.out.2.block (fun b ha hb => k2 b hb (by have := hbw b 0 ha; omega))
    thr := by rw [hw6]; exact (thr.store _).after HW.out.2 }

set_option maxRecDepth 100000 in
set_option maxHeartbeats 3200000 in
theorem add_unknown (w : World) (mb kb vb sr sw : Nat) (cl ca re : Int) (rv wv : Value) (oc : ByteArray) (fr fw : ByteArray → Option Value) (tr tw : ByteArray → Option ByteArray) (st : NS) (hsr : sr ≤ 1048576) (hsw : sw ≤ 1048576) (hk : st.ks ≤ 1048576) (hv : st.vs ≤ 1048576)
    (m0 : w.cell? ⟨mb, 0, none⟩ = some (.slice none 0 0)) (m1 : w.cell? ⟨mb, 1, none⟩ = some (.map (some kb))) (m2 : w.cell? ⟨mb, 2, none⟩ = some (.map (some vb))) (hfz : w.frozen? ⟨mb, 0, none⟩ = false)
    (TK : Tab 9 slit w kb (IT st.kf) st.ks) (TV : Tab 9 slit w vb (IT st.vf) st.vs) (TR : TxM w rv fr tr sr) (TW : TxM w wv fw tw sw) (hner : ∀ b, rv = .map (some b) → kb ≠ b ∧ vb ≠ b) (hnew : ∀ b, wv = .map (some b) → kb ≠ b ∧ vb ≠ b) (hkv : kb ≠ vb)
    (hlr : ∀ vis : List ByteArray, vis.Nodup → (∀ x, x ∈ vis ↔ (fr x).isSome = true) → vis.length ≤ 1048576)
    (ho1 : (oc.toList == [97, 98, 111, 114, 116, 101, 100]) = false) (ho2 : (oc.toList == [117, 110, 107, 110, 111, 119, 110]) = true) (hsw0 : sw ≠ 0) :
    Calls Try.prog 41 #[.pointer (some ⟨mb, 0, none⟩), .agg #[.int .i64 cl, .int .i64 ca, .int .i64 re, rv, wv, .string oc]] w (fun e w' => RetAdd w w' e kb vb mb fr fw tr tw st ca re true) := by
  have n1 : mb ≠ kb := TK.no_cell m0
  have n2 : mb ≠ vb := TV.no_cell m0
  have hmw : mb < w.heap.size := lt_of_cell m0
  have hkw : kb < w.heap.size := TK.lt
  have hvw : vb < w.heap.size := TV.lt
  have hln : ∀ (o : Obj) ty, (Builtin.len_ #[46] ty #[wv]).run Try.prog (w.alloc o) = .ok (.int .i64 sw) (w.alloc o) := fun o ty => (TW.below ((Below.refl _ _).alloc (Nat.le_refl _) o)).len ty
  obtain ⟨i0, hi, hz0, hz1, hz2⟩ := info_parts info71
  have HM : Hid (w.cell? ⟨mb, 0, none⟩ = some (.slice none 0 0) ∧ w.cell? ⟨mb, 1, none⟩ = some (.map (some kb)) ∧ w.cell? ⟨mb, 2, none⟩ = some (.map (some vb))) := ⟨m0, m1, m2⟩
  have HT : Hid (Tab 9 slit w kb (IT st.kf) st.ks ∧ Tab 9 slit w vb (IT st.vf) st.vs) := ⟨TK, TV⟩
  have HX : Hid (TxM w rv fr tr sr ∧ TxM w wv fw tw sw) := ⟨TR, TW⟩
  have HL : Hid (∀ vis : List ByteArray, vis.Nodup → (∀ x, x ∈ vis ↔ (fr x).isSome = true) → vis.length ≤ 1048576) := hlr
  have HFZ : Hid (w.frozen? ⟨mb, 0, none⟩ = false) := hfz
  clear m0 m1 m2 TK TV TR TW hlr hfz
  go_enter Try.func41, Try.ntmps41
  go_wp2_with fail
  clear hln
  obtain ⟨W, hW⟩ : ∃ W, W = w.alloc (Obj.cells #[Value.int IntKind.i64 cl, Value.int IntKind.i64 ca, Value.int IntKind.i64 re, rv, wv, Value.string oc] 54) := ⟨_, rfl⟩
  rw [← hW]
  have gW : w.grownBy W none := by rw [hW]; exact World.grownBy_alloc _ _ _
  have bW : Below w.heap.size w W.drew := ⟨gW.os, gW.tape, gW.output, gW.size, fun i hi => gW.block i hi (by simp)⟩
  have zW : W.heap.size = w.heap.size + 1 := by rw [hW]; simp
  have hS : (fun w' : World => w'.cell? ⟨mb, 0, none⟩ = some (.slice none 0 0) ∧ w'.cell? ⟨w.heap.size, 3, none⟩ = some rv ∧ w'.cell? ⟨w.heap.size, 4, none⟩ = some wv ∧ w'.cell? ⟨w.heap.size, 1, none⟩ = some (.int .i64 ca) ∧ w'.cell? ⟨w.heap.size, 2, none⟩ = some (.int .i64 re) ∧ w'.cell? ⟨w.heap.size, 5, none⟩ = some (.string oc)) W.drew := by
    refine ⟨(bW.cell hmw).trans HM.out.1, ?_, ?_, ?_, ?_, ?_⟩ <;> · show W.cell? _ = _; rw [hW]; simp
  refine wp_region_E 26 (fun w' : World => w'.cell? ⟨mb, 0, none⟩ = some (.slice none 0 0) ∧ w'.cell? ⟨w.heap.size, 3, none⟩ = some rv ∧ w'.cell? ⟨w.heap.size, 4, none⟩ = some wv ∧ w'.cell? ⟨w.heap.size, 1, none⟩ = some (.int .i64 ca) ∧ w'.cell? ⟨w.heap.size, 2, none⟩ = some (.int .i64 re) ∧ w'.cell? ⟨w.heap.size, 5, none⟩ = some (.string oc)) (by kernel_rfl) ?_
  refine wpAnyE_take (i := 0) (v := ?_) (some 18) rfl rfl (by kernel_rfl) (by kernel_rfl) (by kernel_rfl) (by kernel_rfl) (fun _ _ _ h => h) (Or.inl ⟨by rfl, ?_⟩) (by assumption) ?_
  rotate_left
  · intro w hSw; (try dsimp only at hSw); go_simp; try with_reducible rfl
  simp only [Act.put, List.setIfInBounds_toArray, List.set_cons_zero, List.set_cons_succ]
  refine wpAnyE_take (i := 1) (v := ?_) (some 19) rfl rfl (by kernel_rfl) (by kernel_rfl) (by kernel_rfl) (by kernel_rfl) (fun _ _ _ h => h) (Or.inl ⟨by rfl, ?_⟩) (by assumption) ?_
  rotate_left
  · intro w hSw; (try dsimp only at hSw); go_simp; try with_reducible rfl
  simp only [Act.put, List.setIfInBounds_toArray, List.set_cons_zero, List.set_cons_succ]
  refine wpAnyE_take (i := 2) (v := ?_) (some 20) rfl rfl (by kernel_rfl) (by kernel_rfl) (by kernel_rfl) (by kernel_rfl) (fun _ _ _ h => h) (Or.inl ⟨by rfl, ?_⟩) (by assumption) ?_
  rotate_left
  · intro w hSw; (try dsimp only at hSw); go_simp; try with_reducible rfl
  simp only [Act.put, List.setIfInBounds_toArray, List.set_cons_zero, List.set_cons_succ]
  refine wpAnyE_take (i := 3) (v := ?_) (some 21) rfl rfl (by kernel_rfl) (by kernel_rfl) (by kernel_rfl) (by kernel_rfl) (fun _ _ _ h => h) (Or.inl ⟨by rfl, ?_⟩) (by assumption) ?_
  rotate_left
  · intro w hSw; (try dsimp only at hSw); go_simp; try with_reducible rfl
  simp only [Act.put, List.setIfInBounds_toArray, List.set_cons_zero, List.set_cons_succ]
  refine wpAnyE_take (i := 4) (v := ?_) (some 22) rfl rfl (by kernel_rfl) (by kernel_rfl) (by kernel_rfl) (by kernel_rfl) (fun _ _ _ h => h) (Or.inl ⟨by rfl, ?_⟩) (by assumption) ?_
  rotate_left
  · intro w hSw; (try dsimp only at hSw); go_simp; try with_reducible rfl
  simp only [Act.put, List.setIfInBounds_toArray, List.set_cons_zero, List.set_cons_succ]
  refine wpAnyE_take (i := 5) (v := ?_) (some 23) rfl rfl (by kernel_rfl) (by kernel_rfl) (by kernel_rfl) (by kernel_rfl) (fun _ _ _ h => h) (Or.inl ⟨by rfl, ?_⟩) (by assumption) ?_
  rotate_left
  · intro w hSw; (try dsimp only at hSw); go_simp; try with_reducible rfl
  simp only [Act.put, List.setIfInBounds_toArray, List.set_cons_zero, List.set_cons_succ]
  refine wpAnyE_take (i := 6) (v := ?_) (some 24) rfl rfl (by kernel_rfl) (by kernel_rfl) (by kernel_rfl) (by kernel_rfl) (fun _ _ _ h => h) (Or.inl ⟨by rfl, ?_⟩) (by assumption) ?_
  rotate_left
  · intro w hSw; (try dsimp only at hSw); go_simp; try with_reducible rfl
  simp only [Act.put, List.setIfInBounds_toArray, List.set_cons_zero, List.set_cons_succ]
  refine wpAnyE_take (i := 7) (v := ?_) (some 25) rfl rfl (by kernel_rfl) (by kernel_rfl) (by kernel_rfl) (by kernel_rfl) (fun _ _ _ h => h) (Or.inl ⟨by rfl, ?_⟩) (by assumption) ?_
  rotate_left
  · intro w hSw; (try dsimp only at hSw); go_simp; try with_reducible rfl
  simp only [Act.put, List.setIfInBounds_toArray, List.set_cons_zero, List.set_cons_succ]
  refine wpAnyE_take (i := 9) (v := ?_) (some 27) rfl rfl (by kernel_rfl) (by kernel_rfl) (by kernel_rfl) (by kernel_rfl) (fun _ _ _ h => h) (Or.inl ⟨by rfl, ?_⟩) (by assumption) ?_
  rotate_left
  · intro w hSw; (try dsimp only at hSw); go_simp; try with_reducible rfl
  simp only [Act.put, List.setIfInBounds_toArray, List.set_cons_zero, List.set_cons_succ]
  refine wpAnyE_take (i := 10) (v := ?_) (some 28) rfl rfl (by kernel_rfl) (by kernel_rfl) (by kernel_rfl) (by kernel_rfl) (fun _ _ _ h => h) (Or.inl ⟨by rfl, ?_⟩) (by assumption) ?_
  rotate_left
  · intro w hSw; (try dsimp only at hSw); go_simp; try with_reducible rfl
  simp only [Act.put, List.setIfInBounds_toArray, List.set_cons_zero, List.set_cons_succ]
  refine wpAnyE_take (i := 11) (v := ?_) (some 29) rfl rfl (by kernel_rfl) (by kernel_rfl) (by kernel_rfl) (by kernel_rfl) (fun _ _ _ h => h) (Or.inl ⟨by rfl, ?_⟩) (by assumption) ?_
  rotate_left
  · intro w hSw; (try dsimp only at hSw); go_simp; try with_reducible rfl
  simp only [Act.put, List.setIfInBounds_toArray, List.set_cons_zero, List.set_cons_succ]
  refine wpAnyE_take (i := 13) (v := ?_) (some 31) rfl rfl (by kernel_rfl) (by kernel_rfl) (by kernel_rfl) (by kernel_rfl) (fun _ _ _ h => h) (Or.inl ⟨by rfl, ?_⟩) (by assumption) ?_
  rotate_left
  · intro w hSw; (try dsimp only at hSw); go_simp; try with_reducible rfl
  simp only [Act.put, List.setIfInBounds_toArray, List.set_cons_zero, List.set_cons_succ]
  refine wpAnyE_take (i := 14) (v := ?_) (some 32) rfl rfl (by kernel_rfl) (by kernel_rfl) (by kernel_rfl) (by kernel_rfl) (fun _ _ _ h => h) (Or.inl ⟨by rfl, ?_⟩) (by assumption) ?_
  rotate_left
  · intro w hSw; (try dsimp only at hSw); go_simp; try with_reducible rfl
  simp only [Act.put, List.setIfInBounds_toArray, List.set_cons_zero, List.set_cons_succ]
  refine wpAnyE_take (i := 15) (v := ?_) (some 33) rfl rfl (by kernel_rfl) (by kernel_rfl) (by kernel_rfl) (by kernel_rfl) (fun _ _ _ h => h) (Or.inl ⟨by rfl, ?_⟩) (by assumption) ?_
  rotate_left
  · intro w hSw; (try dsimp only at hSw); go_simp; try with_reducible rfl
  simp only [Act.put, List.setIfInBounds_toArray, List.set_cons_zero, List.set_cons_succ]
  refine wpAnyE_take (i := 16) (v := ?_) (some 34) rfl rfl (by kernel_rfl) (by kernel_rfl) (by kernel_rfl) (by kernel_rfl) (fun _ _ _ h => h) (Or.inl ⟨by rfl, ?_⟩) (by assumption) ?_
  rotate_left
  · intro w hSw; (try dsimp only at hSw); go_simp; try with_reducible rfl
  simp only [Act.put, List.setIfInBounds_toArray, List.set_cons_zero, List.set_cons_succ]
  refine wpAnyE_take (i := 17) (v := ?_) (some 35) rfl rfl (by kernel_rfl) (by kernel_rfl) (by kernel_rfl) (by kernel_rfl) (fun _ _ _ h => h) (Or.inl ⟨by rfl, ?_⟩) (by assumption) ?_
  rotate_left
  · intro w hSw; (try dsimp only at hSw); go_simp; try with_reducible rfl
  simp only [Act.put, List.setIfInBounds_toArray, List.set_cons_zero, List.set_cons_succ]
  refine wpAnyE_take (i := 18) (v := ?_) (some 36) rfl rfl (by kernel_rfl) (by kernel_rfl) (by kernel_rfl) (by kernel_rfl) (fun _ _ _ h => h) (Or.inl ⟨by rfl, ?_⟩) (by assumption) ?_
  rotate_left
  · intro w hSw; (try dsimp only at hSw); go_simp; try with_reducible rfl
  simp only [Act.put, List.setIfInBounds_toArray, List.set_cons_zero, List.set_cons_succ]
  refine wpAnyE_take (i := 19) (v := ?_) (some 37) rfl rfl (by kernel_rfl) (by kernel_rfl) (by kernel_rfl) (by kernel_rfl) (fun _ _ _ h => h) (Or.inl ⟨by rfl, ?_⟩) (by assumption) ?_
  rotate_left
  · intro w hSw; (try dsimp only at hSw); go_simp; try with_reducible rfl
  simp only [Act.put, List.setIfInBounds_toArray, List.set_cons_zero, List.set_cons_succ]
  have hTK0 := HT.out.1.below bW
  have hTV0 := HT.out.2.below bW
  have stepS : ∀ w1 w2 : World, (∀ i, i < w1.heap.size → i ≠ kb → i ≠ vb → w2.heap[i]? = w1.heap[i]?) → (fun w' : World => w'.cell? ⟨mb, 0, none⟩ = some (.slice none 0 0) ∧ w'.cell? ⟨w.heap.size, 3, none⟩ = some rv ∧ w'.cell? ⟨w.heap.size, 4, none⟩ = some wv ∧ w'.cell? ⟨w.heap.size, 1, none⟩ = some (.int .i64 ca) ∧ w'.cell? ⟨w.heap.size, 2, none⟩ = some (.int .i64 re) ∧ w'.cell? ⟨w.heap.size, 5, none⟩ = some (.string oc)) w1 → (fun w' : World => w'.cell? ⟨mb, 0, none⟩ = some (.slice none 0 0) ∧ w'.cell? ⟨w.heap.size, 3, none⟩ = some rv ∧ w'.cell? ⟨w.heap.size, 4, none⟩ = some wv ∧ w'.cell? ⟨w.heap.size, 1, none⟩ = some (.int .i64 ca) ∧ w'.cell? ⟨w.heap.size, 2, none⟩ = some (.int .i64 re) ∧ w'.cell? ⟨w.heap.size, 5, none⟩ = some (.string oc)) w2 := by
    intro w1 w2 hb ⟨h1, h2, h3, h4, h5, h6⟩
    have q : ∀ (a : Addr) (v : Value), w1.cell? a = some v → a.block ≠ kb → a.block ≠ vb → w2.cell? a = some v := fun a v h n1 n2 => (World.cell?_of_block (hb _ (lt_of_cell h) n1 n2)).trans h
    exact ⟨q _ _ h1 n1 n2, q _ _ h2 (by simp; omega) (by simp; omega), q _ _ h3 (by simp; omega) (by simp; omega), q _ _ h4 (by simp; omega) (by simp; omega), q _ _ h5 (by simp; omega) (by simp; omega), q _ _ h6 (by simp; omega) (by simp; omega)⟩
  have HSt : Hid (∀ w1 w2 : World, (∀ i, i < w1.heap.size → i ≠ kb → i ≠ vb → w2.heap[i]? = w1.heap[i]?) → (fun w' : World => w'.cell? ⟨mb, 0, none⟩ = some (.slice none 0 0) ∧ w'.cell? ⟨w.heap.size, 3, none⟩ = some rv ∧ w'.cell? ⟨w.heap.size, 4, none⟩ = some wv ∧ w'.cell? ⟨w.heap.size, 1, none⟩ = some (.int .i64 ca) ∧ w'.cell? ⟨w.heap.size, 2, none⟩ = some (.int .i64 re) ∧ w'.cell? ⟨w.heap.size, 5, none⟩ = some (.string oc)) w1 → (fun w' : World => w'.cell? ⟨mb, 0, none⟩ = some (.slice none 0 0) ∧ w'.cell? ⟨w.heap.size, 3, none⟩ = some rv ∧ w'.cell? ⟨w.heap.size, 4, none⟩ = some wv ∧ w'.cell? ⟨w.heap.size, 1, none⟩ = some (.int .i64 ca) ∧ w'.cell? ⟨w.heap.size, 2, none⟩ = some (.int .i64 re) ∧ w'.cell? ⟨w.heap.size, 5, none⟩ = some (.string oc)) w2) := stepS
  have HSW : Hid ((fun w' : World => w'.cell? ⟨mb, 0, none⟩ = some (.slice none 0 0) ∧ w'.cell? ⟨w.heap.size, 3, none⟩ = some rv ∧ w'.cell? ⟨w.heap.size, 4, none⟩ = some wv ∧ w'.cell? ⟨w.heap.size, 1, none⟩ = some (.int .i64 ca) ∧ w'.cell? ⟨w.heap.size, 2, none⟩ = some (.int .i64 re) ∧ w'.cell? ⟨w.heap.size, 5, none⟩ = some (.string oc)) W.drew) := hS
  have HW : Hid (w.grownBy W none ∧ Below w.heap.size w W.drew) := ⟨gW, bW⟩
  clear stepS hS hW gW bW
  have zD : W.drew.heap.size = w.heap.size + 1 := zW
  refine wpAnyE_one (i := 8) rfl (by kernel_rfl) ?_
  intro K1 hK1
  go_simp
  go_at_call 49
  refine (assigns_any W.drew mb kb vb sr rv fr tr st hsr (by omega) (by omega) ((HW.out.2.cell hmw).trans HM.out.2.1) ((HW.out.2.cell hmw).trans HM.out.2.2) (HX.out.1.below HW.out.2) hTK0 hTV0 hner hkv).mono ?_
  rintro e w1 ⟨visR, v1, rfl, rn, rk, TK1, TV1, own1, two1⟩
  have hvR := HL.out visR rn rk
  obtain ⟨ar, cr, rfl, pr1, hbr⟩ := prs_of_own (nout_length tr visR st) own1
  have hS1 := HSt.out W.drew w1 two1.block HSW.out
  refine hK1.out _ _ (.inr hS1) ?_
  clear hK1 K1
  try simp only [Act.put, List.setIfInBounds_toArray, List.set_cons_zero, List.set_cons_succ]
  have bk := nrun_ks tr visR st
  have bv := nrun_vs tr visR st
  have cm1 : w1.cell? ⟨mb, 1, none⟩ = some (.map (some kb)) := two1.cell ((HW.out.2.cell hmw).trans HM.out.2.1) n1 n2
  have cm2 : w1.cell? ⟨mb, 2, none⟩ = some (.map (some vb)) := two1.cell ((HW.out.2.cell hmw).trans HM.out.2.2) n1 n2
  have CW := assigns_any w1 mb kb vb sw wv fw tw (nrun tr st visR) hsw (by omega) (by omega) cm1 cm2 ((HX.out.2.below HW.out.2).two hnew two1 hTK0 hTV0) TK1 TV1 hnew hkv
  have HS1 : Hid ((fun w' : World => w'.cell? ⟨mb, 0, none⟩ = some (.slice none 0 0) ∧ w'.cell? ⟨w.heap.size, 3, none⟩ = some rv ∧ w'.cell? ⟨w.heap.size, 4, none⟩ = some wv ∧ w'.cell? ⟨w.heap.size, 1, none⟩ = some (.int .i64 ca) ∧ w'.cell? ⟨w.heap.size, 2, none⟩ = some (.int .i64 re) ∧ w'.cell? ⟨w.heap.size, 5, none⟩ = some (.string oc)) w1) := hS1
  clear hS1
  refine wpAnyE_one (i := 12) rfl (by kernel_rfl) ?_
  intro K1 hK1
  have HCW : Hid (Calls Try.prog 49 #[.pointer (some ⟨mb, 0, none⟩), wv] w1 (fun e w' => RetAsg w1 w' e kb vb fw tw (nrun tr st visR))) := CW
  clear CW cm1 cm2
  go_simp
  go_at_call 49
  refine HCW.out.mono ?_
  clear HCW
  rintro e w2 ⟨visW, v2, rfl, wn, wk, TK2, TV2, own2, two2⟩
  obtain ⟨aw, cw, rfl, pw2, hbw⟩ := prs_of_own (nout_length tw visW (nrun tr st visR)) own2
  have hS2 := HSt.out w1 w2 two2.block HS1.out
  refine hK1.out _ _ (.inr hS2) ?_
  clear hK1 K1
  try simp only [Act.put, List.setIfInBounds_toArray, List.set_cons_zero, List.set_cons_succ]
  have z1 : w.heap.size + 1 ≤ w1.heap.size := by have := two1.size; omega
  have z2 := two2.size
  have HS2 : Hid ((fun w' : World => w'.cell? ⟨mb, 0, none⟩ = some (.slice none 0 0) ∧ w'.cell? ⟨w.heap.size, 3, none⟩ = some rv ∧ w'.cell? ⟨w.heap.size, 4, none⟩ = some wv ∧ w'.cell? ⟨w.heap.size, 1, none⟩ = some (.int .i64 ca) ∧ w'.cell? ⟨w.heap.size, 2, none⟩ = some (.int .i64 re) ∧ w'.cell? ⟨w.heap.size, 5, none⟩ = some (.string oc)) w2) := hS2
  clear hS2
  have pr2 := pr1.block (w' := w2) (fun b ha hb => two2.block b hb (by have := hbr b 0 ha; omega) (by have := hbr b 0 ha; omega))
  have two02 : Two W.drew w2 kb vb := two1.trans two2
  have HP : Hid (Prs w2 ar visR.length (kOf (nout tr st visR)) (vOf (nout tr st visR)) ∧ Prs w2 aw visW.length (kOf (nout tw (nrun tr st visR) visW)) (vOf (nout tw (nrun tr st visR) visW))) := ⟨pr2, pw2⟩
  clear pr1 pr2 pw2 own1 own2 two1 TK1 TV1
  refine wpAnyE_one (i := 20) rfl (by kernel_rfl) ?_
  intro K1 hK1
  go_simp
  refine hK1.out _ _ (.inr HS2.out) ?_
  clear hK1 K1
  try simp only [Act.put, List.setIfInBounds_toArray, List.set_cons_zero, List.set_cons_succ]
  refine wpAnyE_one (i := 21) rfl (by kernel_rfl) ?_
  intro K1 hK1
  go_simp
  obtain ⟨W3, hW3⟩ : ∃ W3, W3 = w2.alloc (Obj.cells #[.slice ar visR.length cr, .slice aw visW.length cw, .int .i64 ca, .int .i64 re, .bool true] 75) := ⟨_, rfl⟩
  rw [← hW3]
  have g3 : w2.grownBy W3 none := by rw [hW3]; exact World.grownBy_alloc _ _ _
  have z3 : W3.heap.size = w2.heap.size + 1 := by rw [hW3]; simp
  have q3 : W3.cell? ⟨w2.heap.size, 0, none⟩ = some (.slice ar visR.length cr) ∧ W3.cell? ⟨w2.heap.size, 1, none⟩ = some (.slice aw visW.length cw) ∧ W3.cell? ⟨w2.heap.size, 2, none⟩ = some (.int .i64 ca) ∧ W3.cell? ⟨w2.heap.size, 3, none⟩ = some (.int .i64 re) ∧ W3.cell? ⟨w2.heap.size, 4, none⟩ = some (.bool true) := by
    rw [hW3]; refine ⟨?_, ?_, ?_, ?_, ?_⟩ <;> simp
  have hS3 := HSt.out w2 W3 (fun i hi _ _ => g3.block i hi (by simp)) HS2.out
  refine hK1.out _ _ (.inr hS3) ?_
  clear hK1 K1 hW3
  have HS3 : Hid ((fun w' : World => w'.cell? ⟨mb, 0, none⟩ = some (.slice none 0 0) ∧ w'.cell? ⟨w.heap.size, 3, none⟩ = some rv ∧ w'.cell? ⟨w.heap.size, 4, none⟩ = some wv ∧ w'.cell? ⟨w.heap.size, 1, none⟩ = some (.int .i64 ca) ∧ w'.cell? ⟨w.heap.size, 2, none⟩ = some (.int .i64 re) ∧ w'.cell? ⟨w.heap.size, 5, none⟩ = some (.string oc)) W3) := hS3
  have HQ3 : Hid (W3.cell? ⟨w2.heap.size, 0, none⟩ = some (.slice ar visR.length cr) ∧ W3.cell? ⟨w2.heap.size, 1, none⟩ = some (.slice aw visW.length cw) ∧ W3.cell? ⟨w2.heap.size, 2, none⟩ = some (.int .i64 ca) ∧ W3.cell? ⟨w2.heap.size, 3, none⟩ = some (.int .i64 re) ∧ W3.cell? ⟨w2.heap.size, 4, none⟩ = some (.bool true)) := q3
  clear hS3 q3
  try simp only [Act.put, List.setIfInBounds_toArray, List.set_cons_zero, List.set_cons_succ]
  refine wpAnyE_one (i := 22) rfl (by kernel_rfl) ?_
  intro K1 hK1
  go_simp
  obtain ⟨W4, hW4⟩ : ∃ W4, W4 = W3.alloc (Obj.cells #[.pointer (some ⟨w2.heap.size, 0, none⟩)] 71) := ⟨_, rfl⟩
  rw [← hW4]
  have g4 : W3.grownBy W4 none := by rw [hW4]; exact World.grownBy_alloc _ _ _
  have z4 : W4.heap.size = W3.heap.size + 1 := by rw [hW4]; simp
  have q4 : W4.cell? ⟨w2.heap.size + 1, 0, none⟩ = some (.pointer (some ⟨w2.heap.size, 0, none⟩)) := by rw [hW4, ← z3]; simp
  have hS4 := HSt.out W3 W4 (fun i hi _ _ => g4.block i hi (by simp)) HS3.out
  refine hK1.out _ _ (.inr hS4) ?_
  clear hK1 K1 hW4
  have HS4 : Hid ((fun w' : World => w'.cell? ⟨mb, 0, none⟩ = some (.slice none 0 0) ∧ w'.cell? ⟨w.heap.size, 3, none⟩ = some rv ∧ w'.cell? ⟨w.heap.size, 4, none⟩ = some wv ∧ w'.cell? ⟨w.heap.size, 1, none⟩ = some (.int .i64 ca) ∧ w'.cell? ⟨w.heap.size, 2, none⟩ = some (.int .i64 re) ∧ w'.cell? ⟨w.heap.size, 5, none⟩ = some (.string oc)) W4) := hS4
  clear hS4
  try simp only [Act.put, List.setIfInBounds_toArray, List.set_cons_zero, List.set_cons_succ]
  refine wpAnyE_one (i := 23) rfl (by kernel_rfl) ?_
  intro K1 hK1
  rw [if_pos (by rfl)]
  refine wp_append_own W4 _ _ 68 rfl W4.heap.size 71 i0 (.pointer none) 1 8 Try.underlying68 hi hz0 hz1 hz2 rfl (by decide) (.slice none 0 0) 0 [] rfl (World.ownsRow_nil _ _ _ _) ⟨w2.heap.size + 1, 0, none⟩ 1 1 [.pointer (some ⟨w2.heap.size, 0, none⟩)] rfl rfl (fun j u hj => by
    match j, hj with
    | 0, hj => simp at hj; subst hj; exact q4) (fun u hu => by simp at hu; subst hu; rfl) (by unfold maxLen; omega) (by omega) (Nat.le_refl _) ?_
  intro v5 w5 own5 g5 nil5
  have hS5 := HSt.out W4 w5 (fun i hi _ _ => g5.block i hi (by simp [Value.ownBlock])) HS4.out
  refine hK1.out _ _ (.inr hS5) ?_
  clear hK1 K1
  try simp only [Act.put, List.setIfInBounds_toArray, List.set_cons_zero, List.set_cons_succ]
  rcases own5.2 with ⟨rfl, h0⟩ | ⟨ob, c, cur, rfl, o1, o2, o3, o4, o5, o6⟩
  · exact absurd h0 (by decide)
  have c5 : w5.cell? ⟨ob, 0, none⟩ = some (.pointer (some ⟨w2.heap.size, 0, none⟩)) := by simpa [Addr.add] using own5.cells (g := ob) rfl 0 _ rfl
  have hob : ob < w5.heap.size := (own5.lt ob rfl).2
  have g35 : W3.grownBy w5 none := g4.trans g5
  have hmb5 : w5.cell? ⟨mb, 0, none⟩ = some (.slice none 0 0) := hS5.1
  have HS5 : Hid ((fun w' : World => w'.cell? ⟨mb, 0, none⟩ = some (.slice none 0 0) ∧ w'.cell? ⟨w.heap.size, 3, none⟩ = some rv ∧ w'.cell? ⟨w.heap.size, 4, none⟩ = some wv ∧ w'.cell? ⟨w.heap.size, 1, none⟩ = some (.int .i64 ca) ∧ w'.cell? ⟨w.heap.size, 2, none⟩ = some (.int .i64 re) ∧ w'.cell? ⟨w.heap.size, 5, none⟩ = some (.string oc)) w5) := hS5
  have fz5 : w5.frozen? ⟨mb, 0, none⟩ = false := by
    rw [World.frozen?_of_block (w := W3) (g35.block mb (by omega) (by simp)), World.frozen?_of_block (w := w2) (g3.block mb (by omega) (by simp)), World.frozen?_of_block (w := W.drew) (two02.block mb (by omega) n1 n2), World.frozen?_of_block (w := w) (HW.out.2.block mb hmw)]
    exact HFZ.out
  have HO5 : Hid (w5.ownsRow W4.heap.size 71 1 (.slice (some ⟨ob, 0, none⟩) 1 c) 1 [.pointer (some ⟨w2.heap.size, 0, none⟩)]) := own5
  clear hS5 own5 o2 o6 q4 nil5
  refine wpAnyE_one (i := 24) rfl (by kernel_rfl) ?_
  intro K1 hK1
  go_simp
  refine hK1.out _ _ (.inr HS5.out) ?_
  clear hK1 K1
  try simp only [Act.put, List.setIfInBounds_toArray, List.set_cons_zero, List.set_cons_succ]
  refine wpAnyE_one (i := 25) rfl (by kernel_rfl) ?_
  intro K1 hK1
  go_simp
  refine hK1.out _ _ (.inr HS5.out) ?_
  clear hK1 K1
  try simp only [Act.put, List.setIfInBounds_toArray, List.set_cons_zero, List.set_cons_succ]
  refine wpAnyE_one (i := 26) rfl (by kernel_rfl) ?_
  intro K1 hK1
  go_simp
  refine hK1.out _ _ (.inl rfl) ?_
  clear hK1 K1
  try simp only [Act.put, List.setIfInBounds_toArray, List.set_cons_zero, List.set_cons_succ]
  refine wpAnyE_done (by kernel_rfl) ?_ _
  go_wp2_with fail
  refine bodyPost_end (v := .tuple #[]) (by simp [results, Try.results41, go_sem]) rfl ?_
  obtain ⟨w6, hw6⟩ : ∃ w6, w6 = w5.setCell ⟨mb, 0, none⟩ (.slice (some ⟨ob, 0, none⟩) 1 c) := ⟨_, rfl⟩
  rw [← hw6]
  have k6 : ∀ i, i ≠ mb → w6.heap[i]? = w5.heap[i]? := fun i hi => by rw [hw6]; exact Deep.blk_setCell_other _ _ _ _ (by simpa using hi)
  have k3 : ∀ i, i < W3.heap.size → i ≠ mb → w6.heap[i]? = W3.heap[i]? := fun i h1 h2 => (k6 i h2).trans (g35.block i h1 (by simp))
  have k2 : ∀ i, i < w2.heap.size → i ≠ mb → w6.heap[i]? = w2.heap[i]? := fun i h1 h2 => (k3 i (by omega) h2).trans (g3.block i h1 (by simp))
  have kc : ∀ i, w6.cell? ⟨w2.heap.size, i, none⟩ = W3.cell? ⟨w2.heap.size, i, none⟩ := fun i => World.cell?_of_block (k3 w2.heap.size (by omega) (by omega))
  have k5 : ∀ i, i ≠ 0 → w6.cell? ⟨mb, i, none⟩ = w5.cell? ⟨mb, i, none⟩ := fun i hi => by rw [hw6]; exact World.cell?_setCell_other _ _ _ _ (fun e => by cases e; exact hi rfl)
  have km : ∀ i v, w.cell? ⟨mb, i, none⟩ = some v → w5.cell? ⟨mb, i, none⟩ = some v := fun i v h => by
    rw [World.cell?_of_block (w := W3) (g35.block mb (by omega) (by simp)), World.cell?_of_block (w := w2) (g3.block mb (by omega) (by simp))]
    exact two02.cell ((HW.out.2.cell hmw).trans h) n1 n2
  have thr : Thr W.drew w5 kb vb mb := ((two02.thr mb).grown g3 (fun j e => by cases e)).grown g35 (fun j e => by cases e)
  refine ⟨⟨_, rfl⟩, visR, visW, ob, w2.heap.size, c, ar, aw, cr, cw, ?_⟩
  exact {
    rn := rn, rk := rk, wn := wn, wk := wk
    tk := TK2.block (k2 kb (by omega) (Ne.symm n1))
    tv := TV2.block (k2 vb (by omega) (Ne.symm n2))
    m0 := by rw [hw6]; exact World.cell?_setCell_same' _ _ _ (by rw [hmb5]; rfl)
    m1 := (k5 1 (by decide)).trans (km 1 _ HM.out.2.1)
    m2 := (k5 2 (by decide)).trans (km 2 _ HM.out.2.2)
    o0 := (World.cell?_of_block (k6 ob (by omega))).trans c5
    q0 := (kc 0).trans HQ3.out.1
    q1 := (kc 1).trans HQ3.out.2.1
    q2 := (kc 2).trans HQ3.out.2.2.1
    q3 := (kc 3).trans HQ3.out.2.2.2.1
    q4 := (kc 4).trans HQ3.out.2.2.2.2
    pr := HP.out.1.block (fun b ha hb => k2 b hb (by have := hbr b 0 ha; omega))
    pw := HP.out.2.block (fun b ha hb => k2 b hb (by have := hbw b 0 ha; omega))
    thr := by rw [hw6]; exact (thr.store _).after HW.out.2 }

theorem add_aborted (w : World) (mb : Nat) (cl ca re : Int) (rv wv : Value) (oc : ByteArray) (ho1 : (oc.toList == [97, 98, 111, 114, 116, 101, 100]) = true) :
    Calls Try.prog 41 #[.pointer (some ⟨mb, 0, none⟩), .agg #[.int .i64 cl, .int .i64 ca, .int .i64 re, rv, wv, .string oc]] w (fun e w' => e = .returned (.tuple #[]) ∧ Below w.heap.size w w') := by
  go_enter Try.func41, Try.ntmps41
  go_wp2_with fail
  refine bodyPost_ret (v := .tuple #[]) (by simp [results, Try.results41, go_sem]) rfl ?_
  exact ⟨rfl, (Below.refl _ _).alloc (Nat.le_refl _) _⟩

theorem add_wroteNothing (w : World) (mb : Nat) (cl ca re : Int) (rv wv : Value) (oc : ByteArray) (fw : ByteArray → Option Value) (tw : ByteArray → Option ByteArray) (TW : TxM w wv fw tw 0) (ho1 : (oc.toList == [97, 98, 111, 114, 116, 101, 100]) = false) (ho2 : (oc.toList == [117, 110, 107, 110, 111, 119, 110]) = true) :
    Calls Try.prog 41 #[.pointer (some ⟨mb, 0, none⟩), .agg #[.int .i64 cl, .int .i64 ca, .int .i64 re, rv, wv, .string oc]] w (fun e w' => e = .returned (.tuple #[]) ∧ Below w.heap.size w w') := by
  have hln : ∀ (o : Obj) ty, (Builtin.len_ #[46] ty #[wv]).run Try.prog (w.alloc o) = .ok (.int .i64 0) (w.alloc o) := fun o ty => (TW.below ((Below.refl _ _).alloc (Nat.le_refl _) o)).len ty
  clear TW
  go_enter Try.func41, Try.ntmps41
  go_wp2_with fail
  refine bodyPost_ret (v := .tuple #[]) (by simp [results, Try.results41, go_sem]) rfl ?_
  exact ⟨rfl, (Below.refl _ _).alloc (Nat.le_refl _) _⟩

end Go.Proofs.Qxb6602268a.M
