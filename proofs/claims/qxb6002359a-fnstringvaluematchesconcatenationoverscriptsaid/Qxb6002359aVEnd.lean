/- The end of value: the join in place. -/
import Derived.Test.Qxb6002359aLastS
import Derived.Deep.RegionHeld3
import Derived.Deep.LoopGhost
import Derived.WalkKit
import Derived.ProofKit
import Derived.WalkSpells
import Derived.Deep.OwnRows
import Derived.Deep.QuietTactic
import Derived.BigQuiet
namespace Go.Proofs.Qxb6002359a.M
open Go.RowKit Go.ChangeShapes Go.WideShapes Go.ChangeAt
set_option linter.unusedVariables false
set_option linter.unusedSimpArgs false

theorem cell_heap {w : World} {b : Nat} {cs : Array Value} {T : TypeId} {fr : Nat × Nat} (h : w.heap[b]? = some (.cells cs T fr)) (i : Nat) : w.cell? ⟨b, i, none⟩ = cs[i]? := Lib.cell_of_heap h i

set_option maxRecDepth 100000 in
set_option maxHeartbeats 1600000 in
theorem value_end (w wr : World) (nb x y : Nat) (s a : BA) (hlt : nb < w.heap.size) (hbld : Hid (Lib.BuilderAtF 78 5 (w.heap.size + 1) (w.heap.size + 1) (.pointer (some ⟨w.heap.size + 1, 0, none⟩)) (Lib.byteCells a.data.toList) wr))
    (hblw : Hid (Below (w.heap.size + 1) (w.alloc (.cells #[.pointer (some ⟨nb, 0, none⟩)] 38)) wr)) (hsz : w.heap.size + 2 ≤ wr.heap.size) (hnw : Hid (wr.heap[nb]? = some (catO s x y a.size)))
    (v0 v2 v4 v5 v6 v7 v8 v9 v10 v11 v12 v13 v14 v15 v16 v17 v18 v19 v20 v21 v22 v23 v24 v25 v26 v27 v28 v29 v30 v31 v32 v33 v34 v35 v36 v37 v38 v39 v40 v41 v42 v43 v44 v45 v46 v47 v48 v49 v50 v51 v52 v53 v54 v55 v56 v57 v58 v59 v60 v61 v62 v63 v64 v65 v66 v67 v68 v69 v70 v71 v72 v73 v74 v75 v76 v77 v78 : Value) :
    Code.wp Try.prog ((Try.f29.body.bind (restAt 12)).getD .skip) (bodyPost Try.prog Try.f29 (fun e w' => e = .returned (.string a) ∧ Joined w w' nb a)) ⟨#[v0, .pointer (some ⟨w.heap.size, 0, none⟩), v2, .pointer (some ⟨w.heap.size + 1, 0, none⟩), v4, v5, v6, v7, v8, v9, v10, v11, v12, v13, v14, v15, v16, v17, v18, v19, v20, v21, v22, v23, v24, v25, v26, v27, v28, v29, v30, v31, v32, v33, v34, v35, v36, v37, v38, v39, v40, v41, v42, v43, v44, v45, v46, v47, v48, v49, v50, v51, v52, v53, v54, v55, v56, v57, v58, v59, v60, v61, v62, v63, v64, v65, v66, v67, v68, v69, v70, v71, v72, v73, v74, v75, v76, v77, v78], []⟩ wr := by
  have bx : wr.cell? ⟨w.heap.size, 0, none⟩ = some (.pointer (some ⟨nb, 0, none⟩)) := by rw [hblw.out.cell (by simp)]; simp
  have HS : Hid (Calls Try.prog 39 #[.pointer (some ⟨w.heap.size + 1, 0, none⟩)] wr.drew (fun e w'' => e = .returned (.string a) ∧ Below (w.heap.size + 1) wr w'')) := by
    have := Builder_String_any_k (w.heap.size + 1) (w.heap.size + 1) a.data.toList wr.drew (Or.inr hbld.out.drew) (by show _ ≤ wr.heap.size; omega)
    refine this.mono ?_
    rintro e w'' ⟨rfl, _, hb, _⟩
    exact ⟨rfl, hb.os, hb.tape, hb.output, hb.size, hb.block⟩
  have hn : nb ≠ w.heap.size := by omega
  conv => arg 2; whnf
  go_wp2_with fail
  have bxD : (fun w' : World => w'.cell? ⟨w.heap.size, 0, none⟩ = some (.pointer (some ⟨nb, 0, none⟩))) wr.drew := bx
  refine wp_region_E 15 (fun w' : World => w'.cell? ⟨w.heap.size, 0, none⟩ = some (.pointer (some ⟨nb, 0, none⟩))) (by kernel_rfl) ?_
  refine wpAnyE_take (i := 0) (v := ?_) (some 61) rfl rfl (by kernel_rfl) (by kernel_rfl) (by kernel_rfl) (by kernel_rfl) (fun _ _ _ h => h) (Or.inl ⟨by rfl, ?_⟩) (by assumption) ?_
  rotate_left
  · intro w hSw; (try dsimp only at hSw); go_simp; try with_reducible rfl
  simp only [Act.put, List.setIfInBounds_toArray, List.set_cons_zero, List.set_cons_succ]
  refine wpAnyE_take (i := 1) (v := ?_) (some 62) rfl rfl (by kernel_rfl) (by kernel_rfl) (by kernel_rfl) (by kernel_rfl) (fun _ _ _ h => h) (Or.inl ⟨by rfl, ?_⟩) (by assumption) ?_
  rotate_left
  · intro w hSw; (try dsimp only at hSw); go_simp; try with_reducible rfl
  simp only [Act.put, List.setIfInBounds_toArray, List.set_cons_zero, List.set_cons_succ]
  refine wpAnyE_take (i := 2) (v := ?_) (some 63) rfl rfl (by kernel_rfl) (by kernel_rfl) (by kernel_rfl) (by kernel_rfl) (fun _ _ _ h => h) (Or.inl ⟨by rfl, ?_⟩) (by assumption) ?_
  rotate_left
  · intro w hSw; (try dsimp only at hSw); go_simp; try with_reducible rfl
  simp only [Act.put, List.setIfInBounds_toArray, List.set_cons_zero, List.set_cons_succ]
  refine wpAnyE_take (i := 3) (v := ?_) (some 64) rfl rfl (by kernel_rfl) (by kernel_rfl) (by kernel_rfl) (by kernel_rfl) (fun _ _ _ h => h) (Or.inl ⟨by rfl, ?_⟩) (by assumption) ?_
  rotate_left
  · intro w hSw; (try dsimp only at hSw); go_simp; try with_reducible rfl
  simp only [Act.put, List.setIfInBounds_toArray, List.set_cons_zero, List.set_cons_succ]
  refine wpAnyE_take (i := 4) (v := ?_) (some 65) rfl rfl (by kernel_rfl) (by kernel_rfl) (by kernel_rfl) (by kernel_rfl) (fun _ _ _ h => h) (Or.inl ⟨by rfl, ?_⟩) (by assumption) ?_
  rotate_left
  · intro w hSw; (try dsimp only at hSw); go_simp; try with_reducible rfl
  simp only [Act.put, List.setIfInBounds_toArray, List.set_cons_zero, List.set_cons_succ]
  refine wpAnyE_take (i := 5) (v := ?_) (some 66) rfl rfl (by kernel_rfl) (by kernel_rfl) (by kernel_rfl) (by kernel_rfl) (fun _ _ _ h => h) (Or.inl ⟨by rfl, ?_⟩) (by assumption) ?_
  rotate_left
  · intro w hSw; (try dsimp only at hSw); go_simp; try with_reducible rfl
  simp only [Act.put, List.setIfInBounds_toArray, List.set_cons_zero, List.set_cons_succ]
  have HBX : Hid ((fun w' : World => w'.cell? ⟨w.heap.size, 0, none⟩ = some (.pointer (some ⟨nb, 0, none⟩))) wr.drew) := bxD
  clear bxD bx
  refine wpAnyE_one (i := 6) rfl (by kernel_rfl) ?_
  intro K1 hK1
  go_simp
  go_at_call 39
  refine HS.out.mono ?_
  clear HS
  rintro e w5 ⟨rfl, b5⟩
  have hn5 : w5.heap[nb]? = some (catO s x y a.size) := (b5.block nb (by omega)).trans hnw.out
  have bx0 : w5.cell? ⟨w.heap.size, 0, none⟩ = some (.pointer (some ⟨nb, 0, none⟩)) := by rw [b5.cell (by simp)]; exact HBX.out
  have H5 : Hid (w5.heap[nb]? = some (catO s x y a.size) ∧ Below (w.heap.size + 1) wr w5 ∧ w5.cell? ⟨w.heap.size, 0, none⟩ = some (.pointer (some ⟨nb, 0, none⟩))) := ⟨hn5, b5, bx0⟩
  refine hK1.out _ _ (.inr bx0) ?_
  clear hK1 K1
  try simp only [Act.put, List.setIfInBounds_toArray, List.set_cons_zero, List.set_cons_succ]
  have c0 : w5.cell? ⟨nb, 0, none⟩ = some (.string s) := by rw [cell_heap hn5]; rfl
  have f0 : w5.frozen? ⟨nb, 0, none⟩ = false := Lib.frozen_of_heap hn5 0
  clear hn5 b5 bx0
  refine wpAnyE_one (i := 7) rfl (by kernel_rfl) ?_
  intro K1 hK1
  go_simp
  refine hK1.out _ _ (.inr H5.out.2.2) ?_
  clear hK1 K1
  try simp only [Act.put, List.setIfInBounds_toArray, List.set_cons_zero, List.set_cons_succ]
  refine wpAnyE_one (i := 8) rfl (by kernel_rfl) ?_
  intro K1 hK1
  go_simp
  refine hK1.out _ _ (.inr H5.out.2.2) ?_
  clear hK1 K1
  try simp only [Act.put, List.setIfInBounds_toArray, List.set_cons_zero, List.set_cons_succ]
  refine wpAnyE_one (i := 9) rfl (by kernel_rfl) ?_
  intro K1 hK1
  go_simp
  obtain ⟨w6, hw6⟩ : ∃ w6, w6 = w5.setCell ⟨nb, 0, none⟩ (.string a) := ⟨_, rfl⟩
  rw [← hw6]
  have hn6 : w6.heap[nb]? = some (catO a x y a.size) := by
    rw [hw6]; simp [World.setCell, Array.getElem?_modify, H5.out.1, catO]
  have k6 : ∀ i, i ≠ nb → w6.heap[i]? = w5.heap[i]? := fun i hi => by rw [hw6]; exact Below.heap_setCell _ _ _ _ (fun e => hi e)
  have z6 : w6.heap.size = w5.heap.size ∧ w6.os = w5.os ∧ w6.tape = w5.tape ∧ w6.output = w5.output := by rw [hw6]; exact ⟨by simp, rfl, rfl, rfl⟩
  have bx6 : w6.cell? ⟨w.heap.size, 0, none⟩ = some (.pointer (some ⟨nb, 0, none⟩)) := by rw [World.cell?_of_block (w := w5) (k6 _ (Ne.symm hn))]; exact H5.out.2.2
  refine hK1.out _ _ (.inr bx6) ?_
  clear hK1 K1 hw6 c0 f0
  try simp only [Act.put, List.setIfInBounds_toArray, List.set_cons_zero, List.set_cons_succ]
  have H6 : Hid (w6.heap[nb]? = some (catO a x y a.size) ∧ w6.cell? ⟨w.heap.size, 0, none⟩ = some (.pointer (some ⟨nb, 0, none⟩))) := ⟨hn6, bx6⟩
  have c1 : w6.cell? ⟨nb, 1, none⟩ = some (.pointer (some ⟨x, 0, none⟩)) := by rw [cell_heap hn6]; rfl
  have f1 : w6.frozen? ⟨nb, 1, none⟩ = false := Lib.frozen_of_heap hn6 1
  clear hn6 bx6
  refine wpAnyE_one (i := 10) rfl (by kernel_rfl) ?_
  intro K1 hK1
  go_simp
  refine hK1.out _ _ (.inr H6.out.2) ?_
  clear hK1 K1
  try simp only [Act.put, List.setIfInBounds_toArray, List.set_cons_zero, List.set_cons_succ]
  refine wpAnyE_one (i := 11) rfl (by kernel_rfl) ?_
  intro K1 hK1
  go_simp
  refine hK1.out _ _ (.inr H6.out.2) ?_
  clear hK1 K1
  try simp only [Act.put, List.setIfInBounds_toArray, List.set_cons_zero, List.set_cons_succ]
  refine wpAnyE_one (i := 12) rfl (by kernel_rfl) ?_
  intro K1 hK1
  go_simp
  obtain ⟨w7, hw7⟩ : ∃ w7, w7 = w6.setCell ⟨nb, 1, none⟩ (.pointer none) := ⟨_, rfl⟩
  rw [← hw7]
  have hn7 : w7.heap[nb]? = some (.cells #[.string a, .pointer none, .pointer (some ⟨y, 0, none⟩), .int .i64 a.size] 59 (0, 0)) := by
    rw [hw7]; simp [World.setCell, Array.getElem?_modify, H6.out.1, catO]
  have k7 : ∀ i, i ≠ nb → w7.heap[i]? = w6.heap[i]? := fun i hi => by rw [hw7]; exact Below.heap_setCell _ _ _ _ (fun e => hi e)
  have z7 : w7.heap.size = w6.heap.size ∧ w7.os = w6.os ∧ w7.tape = w6.tape ∧ w7.output = w6.output := by rw [hw7]; exact ⟨by simp, rfl, rfl, rfl⟩
  have bx7 : w7.cell? ⟨w.heap.size, 0, none⟩ = some (.pointer (some ⟨nb, 0, none⟩)) := by rw [World.cell?_of_block (w := w6) (k7 _ (Ne.symm hn))]; exact H6.out.2
  refine hK1.out _ _ (.inr bx7) ?_
  clear hK1 K1 hw7 c1 f1
  try simp only [Act.put, List.setIfInBounds_toArray, List.set_cons_zero, List.set_cons_succ]
  have H7 : Hid (w7.heap[nb]? = some (.cells #[.string a, .pointer none, .pointer (some ⟨y, 0, none⟩), .int .i64 a.size] 59 (0, 0)) ∧ w7.cell? ⟨w.heap.size, 0, none⟩ = some (.pointer (some ⟨nb, 0, none⟩))) := ⟨hn7, bx7⟩
  have c2 : w7.cell? ⟨nb, 2, none⟩ = some (.pointer (some ⟨y, 0, none⟩)) := by rw [cell_heap hn7]; rfl
  have f2 : w7.frozen? ⟨nb, 2, none⟩ = false := Lib.frozen_of_heap hn7 2
  clear hn7 bx7
  refine wpAnyE_one (i := 13) rfl (by kernel_rfl) ?_
  intro K1 hK1
  go_simp
  refine hK1.out _ _ (.inr H7.out.2) ?_
  clear hK1 K1
  try simp only [Act.put, List.setIfInBounds_toArray, List.set_cons_zero, List.set_cons_succ]
  refine wpAnyE_one (i := 14) rfl (by kernel_rfl) ?_
  intro K1 hK1
  go_simp
  refine hK1.out _ _ (.inr H7.out.2) ?_
  clear hK1 K1
  try simp only [Act.put, List.setIfInBounds_toArray, List.set_cons_zero, List.set_cons_succ]
  refine wpAnyE_one (i := 15) rfl (by kernel_rfl) ?_
  intro K1 hK1
  go_simp
  obtain ⟨w8, hw8⟩ : ∃ w8, w8 = w7.setCell ⟨nb, 2, none⟩ (.pointer none) := ⟨_, rfl⟩
  rw [← hw8]
  have hn8 : w8.heap[nb]? = some (leafO a) := by
    rw [hw8]; simp [World.setCell, Array.getElem?_modify, H7.out.1, leafO]
  have k8 : ∀ i, i ≠ nb → w8.heap[i]? = w7.heap[i]? := fun i hi => by rw [hw8]; exact Below.heap_setCell _ _ _ _ (fun e => hi e)
  have z8 : w8.heap.size = w7.heap.size ∧ w8.os = w7.os ∧ w8.tape = w7.tape ∧ w8.output = w7.output := by rw [hw8]; exact ⟨by simp, rfl, rfl, rfl⟩
  have bx8 : w8.cell? ⟨w.heap.size, 0, none⟩ = some (.pointer (some ⟨nb, 0, none⟩)) := by rw [World.cell?_of_block (w := w7) (k8 _ (Ne.symm hn))]; exact H7.out.2
  refine hK1.out _ _ (.inr bx8) ?_
  clear hK1 K1 hw8 c2 f2
  try simp only [Act.put, List.setIfInBounds_toArray, List.set_cons_zero, List.set_cons_succ]
  have c3 : w8.cell? ⟨nb, 0, none⟩ = some (.string a) := by rw [cell_heap hn8]; rfl
  have H8 : Hid (w8.heap[nb]? = some (leafO a)) := hn8
  have HK : Hid ((∀ i, i ≠ nb → w8.heap[i]? = w7.heap[i]?) ∧ (∀ i, i ≠ nb → w7.heap[i]? = w6.heap[i]?) ∧ (∀ i, i ≠ nb → w6.heap[i]? = w5.heap[i]?)) := ⟨k8, k7, k6⟩
  have HZ : Hid ((w8.heap.size = w7.heap.size ∧ w8.os = w7.os ∧ w8.tape = w7.tape ∧ w8.output = w7.output) ∧ (w7.heap.size = w6.heap.size ∧ w7.os = w6.os ∧ w7.tape = w6.tape ∧ w7.output = w6.output) ∧ (w6.heap.size = w5.heap.size ∧ w6.os = w5.os ∧ w6.tape = w5.tape ∧ w6.output = w5.output)) := ⟨z8, z7, z6⟩
  clear hn8 k6 k7 k8 z6 z7 z8
  refine wpAnyE_done (by kernel_rfl) ?_ _
  go_wp2_with fail
  go_ret
  obtain ⟨z8, z7, z6⟩ := HZ.out
  obtain ⟨k8, k7, k6⟩ := HK.out
  have b5 := H5.out.2.1
  have bw := hblw.out
  refine ⟨rfl, ?_, ?_, ?_, ?_, fun i hi hne => ?_, Or.inr H8.out⟩
  · rw [z8.2.1, z7.2.1, z6.2.1, b5.os, bw.os]; rfl
  · rw [z8.2.2.1, z7.2.2.1, z6.2.2.1, b5.tape, bw.tape]; rfl
  · rw [z8.2.2.2, z7.2.2.2, z6.2.2.2, b5.output, bw.output]; rfl
  · have := b5.size; omega
  · rw [k8 i hne, k7 i hne, k6 i hne, b5.block i (by omega), bw.block i (by omega)]
    exact Lib.alloc_old _ _ _ hi

end Go.Proofs.Qxb6002359a.M
