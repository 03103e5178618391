/- (stringVal).value. -/
import Derived.Test.Qxb6002359aVEnd
import Derived.Deep.DeepCutAuto
import Derived.LaidEqlPtr
namespace Go.Proofs.Qxb6002359a.M
open Go.RowKit Go.ChangeShapes Go.WideShapes Go.ChangeAt
set_option linter.unusedVariables false

theorem eql_nil (w : World) (a : Addr) : (binOp .eql 36 (.pointer (some a)) (.pointer none)).run Try.prog w = .ok (.bool false) w := by kernel_rfl

set_option maxRecDepth 100000 in
theorem value_leaf (w : World) (nb : Nat) (t : BA) (h : w.heap[nb]? = some (leafO t)) :
    Calls Try.prog 29 #[.agg #[.pointer (some ⟨nb, 0, none⟩)]] w (fun e w' => e = .returned (.string t) ∧ Joined w w' nb t) := by
  have hlt := lt_of_heap h
  have c0 : ∀ o, (w.alloc o).cell? ⟨nb, 0, none⟩ = some (.string t) := fun o => by rw [World.cell?_alloc_lt _ _ _ (by exact hlt), cell_heap h]; rfl
  have c1 : ∀ o, (w.alloc o).cell? ⟨nb, 1, none⟩ = some (.pointer none) := fun o => by rw [World.cell?_alloc_lt _ _ _ (by exact hlt), cell_heap h]; rfl
  have hn : nb ≠ w.heap.size := by omega
  have HH : Hid (w.heap[nb]? = some (leafO t)) := h
  clear h
  go_enter Try.func29, Try.ntmps29
  go_wp2_with fail
  go_ret
  exact ⟨rfl, rfl, rfl, rfl, by simp, fun i hi _ => Lib.alloc_old _ _ _ hi, Or.inl (Lib.alloc_old _ _ _ hlt)⟩

theorem elem80 : Try.prog.elem 80 = 36 := by kernel_rfl
theorem und80 : Try.prog.underlying 80 = some (.slice (Try.prog.elem 80)) := by rw [elem80]; exact Try.underlying80
theorem upto36 (a : Addr) (n c m : Nat) (h : m ≤ c) (w : World) : (Instr.slice 80 (.slice (some a) n c) none (some (.int .i64 (m : Int))) none).run Try.prog w = .ok (.slice (some a) m c) w := by
  have h2 : (sizeOf (Try.prog.elem 80)).run Try.prog w = .ok 1 w := by rw [elem80]; exact Try.sizeOf36 w
  rw [run_slice_h (P := Try.prog) w 80 (some a) n c und80 .i64 (m : Int) (by omega) (by omega), h2]
  have h3 : sliced (some a) 0 (m : Int).toNat c 1 = .slice (some a) m c := by
    unfold sliced
    simp [Addr.add]
  show Result.ok (sliced (some a) 0 (m : Int).toNat c 1) w = _
  rw [h3]

theorem info36 : (Try.prog.info? 36).map (fun i => (i.zero, i.size, i.bytes)) = some (some (.pointer none), 1, 8) := by kernel_rfl

theorem two_new (W : World) (x y : Value) (t : TypeId) {n : Nat} (hn : W.heap.size = n) : ∀ j u, [x, y][j]? = some u → (W.alloc (.cells #[x, y] t)).cell? ((⟨n, 0, none⟩ : Addr).add j) = some u := by
  subst hn
  intro j u hj
  match j, hj with
  | 0, hj => simp at hj; subst hj; simp [Addr.add]
  | 1, hj => simp at hj; subst hj; simp [Addr.add]
theorem two_one (a b : Option Addr) : ∀ u ∈ [Value.pointer a, Value.pointer b], u.oneCell' = true := by
  intro u hu
  simp at hu
  rcases hu with rfl | rfl <;> rfl

/-- what stands in each round of value's loop; a: what has been written -/
structure Vl (w wr : World) (nb L : Nat) (T : BA) (v : Value) (R : List (Nat × BA × Nat)) (a : BA) : Prop where
  bld : Lib.BuilderAtF 78 5 (w.heap.size + 1) (w.heap.size + 1) (.pointer (some ⟨w.heap.size + 1, 0, none⟩)) (Lib.byteCells a.data.toList) wr
  own : wr.ownsRow (w.heap.size + 2) 36 1 v R.length (ptrs R)
  nds : Nds wr R
  txt : a ++ rest R = T
  ms : meas R ≤ 8192
  blw : Below (w.heap.size + 1) (w.alloc (.cells #[.pointer (some ⟨nb, 0, none⟩)] 38)) wr
  sz : w.heap.size + 2 ≤ wr.heap.size

theorem Vl.wrote {w wr w5 : World} {nb L b l : Nat} {T t a : BA} {v v' : Value} {r : List (Nat × BA × Nat)} (hV : Vl w wr nb L T v ((b, t, l) :: r) a) (own : wr.ownsRow (w.heap.size + 2) 36 1 v' r.length (ptrs r)) (hnr : Nds wr r)
    (hB5 : Lib.BuilderAtF 78 5 (w.heap.size + 1) (w.heap.size + 1) (.pointer (some ⟨w.heap.size + 1, 0, none⟩)) (Lib.byteCells a.data.toList ++ Lib.strCells t) w5) (b5 : Below (w.heap.size + 1) wr w5) (k5 : Lib.OthersKept 5 (some (w.heap.size + 1)) wr w5) : Vl w w5 nb L T v' r (a ++ t) := by
  have hms := hV.ms
  refine ⟨?_, ?_, ?_, ?_, ?_, ?_, Nat.le_trans hV.sz b5.size⟩
  · rw [ByteArray.data_append, Array.toList_append, Lib.byteCells_append]; exact hB5
  · refine own_block own fun g hg => ?_
    obtain ⟨cs, hc⟩ := own_kind own g hg
    have hne : g ≠ w.heap.size + 1 := by have := (own.lt g hg).1; omega
    rw [hc]
    exact k5 g _ hc (by simpa using hne) (fun c fz h => by simp at h)
  · obtain ⟨_, u, hb, _⟩ := hV.bld
    exact hnr.keep (Keeps.others k5 hb)
  · have := hV.txt
    simp only [rest] at this
    rw [ByteArray.append_assoc]; exact this
  · simp only [meas] at hms; omega
  · have hb := hV.blw
    exact ⟨b5.os.trans hb.os, b5.tape.trans hb.tape, b5.output.trans hb.output, Nat.le_trans hb.size b5.size, fun i hi => (b5.block i hi).trans (hb.block i hi)⟩

theorem Vl.parted {w wr w5 : World} {nb L b m1 m2 x y : Nat} {T u1 u2 a : BA} {v v5 : Value} {r : List (Nat × BA × Nat)} {row : Option Nat} (hV : Vl w wr nb L T v ((b, u1 ++ u2, m1 + m2) :: r) a) (h1 : Nd wr x u1 m1) (h2 : Nd wr y u2 m2) (hnr : Nds wr r)
    (own5 : w5.ownsRow (w.heap.size + 2) 36 1 v5 (r.length + 2) (ptrs r ++ [.pointer (some ⟨y, 0, none⟩), .pointer (some ⟨x, 0, none⟩)])) (hg : wr.grownBy w5 row) (hrow : ∀ g, row = some g → w.heap.size + 2 ≤ g ∧ ∃ cs, wr.heap[g]? = some (.cells cs 36 (0, 0))) : Vl w w5 nb L T v5 ((x, u1, m1) :: (y, u2, m2) :: r) a := by
  have hms := hV.ms
  have hk : Keeps wr w5 := Keeps.grown hg (fun g e => by
    obtain ⟨_, cs, hc⟩ := hrow g e
    exact ⟨cs, 36, _, hc, by decide⟩)
  refine ⟨builder_grown hV.bld hg (fun g e => (hrow g e).2), ?_, ?_, ?_, ?_, ?_, Nat.le_trans hV.sz hg.size⟩
  · simpa [ptrs_cons] using own5
  · intro e he
    rcases List.mem_cons.1 he with rfl | he
    · exact h1.keep hk
    · rcases List.mem_cons.1 he with rfl | he
      · exact h2.keep hk
      · exact (hnr e he).keep hk
  · have := hV.txt
    simp only [rest] at this ⊢
    rw [ByteArray.append_assoc] at this
    exact this
  · have p1 := h1.pos
    have p2 := h2.pos
    simp only [meas] at hms ⊢
    omega
  · have hb := hV.blw
    refine ⟨hg.os.trans hb.os, hg.tape.trans hb.tape, hg.output.trans hb.output, Nat.le_trans hb.size hg.size, fun i hi => (hg.block i ?_ ?_).trans (hb.block i hi)⟩
    · have := hV.sz; omega
    · intro e
      have := (hrow i e.symm).1
      omega

set_option maxRecDepth 100000 in
set_option maxHeartbeats 1600000 in
theorem value_cat (w : World) (nb x y l1 l2 : Nat) (s t1 t2 : BA) (h : w.heap[nb]? = some (catO s x y (t1 ++ t2).size)) (h1 : Nd w x t1 l1) (h2 : Nd w y t2 l2) (hl : l1 + l2 ≤ 4096) (ht : (t1 ++ t2).size ≤ 4096) :
    Calls Try.prog 29 #[.agg #[.pointer (some ⟨nb, 0, none⟩)]] w (fun e w' => e = .returned (.string (t1 ++ t2)) ∧ Joined w w' nb (t1 ++ t2)) := by
  have hlt := lt_of_heap h
  have hN : Nd w nb (t1 ++ t2) (l1 + l2) := .cat h h1 h2
  obtain ⟨T, hT⟩ : ∃ T, T = t1 ++ t2 := ⟨_, rfl⟩
  rw [← hT] at h hN ht ⊢
  obtain ⟨L, hL⟩ : ∃ L, L = l1 + l2 := ⟨_, rfl⟩
  rw [← hL] at hN hl
  have c1 : ∀ o, (w.alloc o).cell? ⟨nb, 1, none⟩ = some (.pointer (some ⟨x, 0, none⟩)) := fun o => by rw [World.cell?_alloc_lt _ _ _ (by exact hlt), cell_heap h]; rfl
  have c3 : ∀ o o', ((w.alloc o).alloc o').cell? ⟨nb, 3, none⟩ = some (.int .i64 T.size) := fun o o' => by rw [World.cell?_alloc_lt _ _ _ (by simp; omega), World.cell?_alloc_lt _ _ _ (by exact hlt), cell_heap h]; rfl
  have hn : nb ≠ w.heap.size := by omega
  have HH : Hid (w.heap[nb]? = some (catO s x y T.size) ∧ Nd w nb T L) := ⟨h, hN⟩
  have heq := fun w a => eql_nil w a
  obtain ⟨w2, hw2⟩ : ∃ w2, w2 = (w.alloc (.cells #[.pointer (some ⟨nb, 0, none⟩)] 38)).alloc (.cells #[.pointer none, .slice none 0 0] 78) := ⟨_, rfl⟩
  have HG : Hid (Calls Try.prog 37 #[.pointer (some ⟨w.heap.size + 1, 0, none⟩), .int .i64 T.size] w2 (fun e w' => e = .returned (.tuple #[]) ∧ (Lib.BuilderAt 78 5 (w.heap.size + 1) (w.heap.size + 1) (.pointer (some ⟨w.heap.size + 1, 0, none⟩)) [] w' ∧ Below (w.heap.size + 1) w2 w'))) :=
    Builder_Grow_fresh (w.heap.size + 1) (w.heap.size + 1) T.size w2 (Nat.le_refl _) (by rw [hw2]; exact heap_alloc2_new _ _ _) (by rw [hw2]; simp) (by omega)
  rw [hw2] at HG
  clear h h1 h2 hN hT hL
  go_enter Try.func29, Try.ntmps29
  go_upto_region 5 with (go_at_call 37; refine HG.out.mono ?_; clear HG; rw [← hw2]; rintro e w3 ⟨rfl, hB3, b3⟩; have cb3 : w3.cell? ⟨w.heap.size, 0, none⟩ = some (.pointer (some ⟨nb, 0, none⟩)) := by { rw [b3.cell (by simp), hw2]; simp })
  rename_i K1 hh1 K0 hh0
  have HK : Hid (∀ (a : Act) (w : World), _ → K1 a w) := hh1
  clear hh1
  have b3' : Below (w.heap.size + 1) (w.alloc (.cells #[.pointer (some ⟨nb, 0, none⟩)] 38)) w3 := by
    rw [hw2] at b3
    exact ⟨b3.os, b3.tape, b3.output, by have := b3.size; simp at this ⊢; omega, fun i hi => (b3.block i hi).trans (Lib.alloc_old _ _ _ (by simpa using hi))⟩
  have z3 : w.heap.size + 2 ≤ w3.heap.size := by have := b3.size; rw [hw2] at this; simpa using this
  have HB3 : Hid (Lib.BuilderAt 78 5 (w.heap.size + 1) (w.heap.size + 1) (.pointer (some ⟨w.heap.size + 1, 0, none⟩)) [] w3 ∧ Below (w.heap.size + 1) (w.alloc (.cells #[.pointer (some ⟨nb, 0, none⟩)] 38)) w3) := ⟨hB3, b3'⟩
  clear hw2 b3 b3' hB3 c1 c3
  go_wp2_with fail
  go_loopg [4] 8192 (fun k v wr => ∃ (R : List (Nat × BA × Nat)) (a : BA), Vl w wr nb L T v R a ∧ meas R ≤ k)
  case atStart =>
    obtain ⟨hB, hb⟩ := HB3.out
    obtain ⟨hH, hN⟩ := HH.out
    have bk : Below (w.heap.size + 1) (w.alloc (.cells #[.pointer (some ⟨nb, 0, none⟩)] 38)) (w3.alloc (.cells #[.pointer (some ⟨nb, 0, none⟩)] 36)) := ⟨hb.os, hb.tape, hb.output, by have := hb.size; simp at this ⊢; omega, fun i hi => (Lib.alloc_old _ _ _ (by omega)).trans (hb.block i hi)⟩
    refine ⟨[(nb, T, L)], ByteArray.empty, ⟨?_, ?_, ?_, ?_, ?_, bk, by simp; omega⟩, ?_⟩
    · exact (Lib.BuilderAtF.of hB).alloc _
    · exact World.ownsRow_lit w3 #[.pointer (some ⟨nb, 0, none⟩)] 1 z3 (by unfold maxLen; omega) rfl
    · intro e he
      simp at he
      subst he
      refine hN.keep fun i cs hi => ?_
      have hi' := lt_of_heap hi
      rw [bk.block i (by omega), Lib.alloc_old _ _ _ hi']
      exact hi
    · simp [rest]
    · simp [meas]; omega
    · simp [meas]; omega
  case round =>
    obtain ⟨R, a, hV, hM⟩ := hrel
    cases R with
    | nil =>
      have hT : a = T := by have := hV.txt; simpa [rest] using this
      subst hT
      have hnw : wr.heap[nb]? = some (catO s x y a.size) := (hV.blw.block nb (by omega)).trans ((Lib.alloc_old _ _ _ hlt).trans HH.out.1)
      have hv0 : ∃ aa cc, u4 = .slice aa 0 cc := by
        rcases hV.own.2 with ⟨rfl, _⟩ | ⟨g, cap, cur, rfl, _⟩
        · exact ⟨_, _, rfl⟩
        · exact ⟨_, _, rfl⟩
      obtain ⟨aa, cc, rfl⟩ := hv0
      have HV : Hid (Lib.BuilderAtF 78 5 (w.heap.size + 1) (w.heap.size + 1) (.pointer (some ⟨w.heap.size + 1, 0, none⟩)) (Lib.byteCells a.data.toList) wr ∧ Below (w.heap.size + 1) (w.alloc (.cells #[.pointer (some ⟨nb, 0, none⟩)] 38)) wr ∧ w.heap.size + 2 ≤ wr.heap.size ∧ wr.heap[nb]? = some (catO s x y a.size)) := ⟨hV.bld, hV.blw, hV.sz, hnw⟩
      clear hV hnw
      go_wp2_with fail
      exact HK.out _ _ (value_end w wr nb x y s a hlt HV.out.1 HV.out.2.1 HV.out.2.2.1 HV.out.2.2.2 _ _ _ _ _ _ _ _ _ _ _ _ _ _ _ _ _ _ _ _ _ _ _ _ _ _ _ _ _ _ _ _ _ _ _ _ _ _ _ _ _ _ _ _ _ _ _ _ _ _ _ _ _ _ _ _ _ _ _ _ _ _ _ _ _ _ _ _ _ _ _ _ _ _ _ _ _)
    | cons e r =>
      obtain ⟨b, t, l⟩ := e
      have own := hV.own
      rw [ptrs_cons] at own
      rcases own.2 with ⟨_, h0⟩ | ⟨g, cap, cur, rfl, o1, o2, o3, o4, o5, o6⟩
      · simp at h0
      have hg : g < wr.heap.size := lt_of_heap o2
      have cg : wr.cell? ⟨g, r.length, none⟩ = some (.pointer (some ⟨b, 0, none⟩)) := by
        have := own.cells (g := g) rfl r.length (.pointer (some ⟨b, 0, none⟩)) (by rw [List.getElem?_append_right (by rw [ptrs_length]; exact Nat.le_refl _), ptrs_length]; simp)
        by_cases h0 : r.length = 0
        · rw [h0] at this ⊢; simpa [Addr.add] using this
        · simpa [Addr.add, h0] using this
      have own' : wr.ownsRow (w.heap.size + 2) 36 1 (.slice (some ⟨g, 0, none⟩) r.length cap) r.length (ptrs r) := by
        have := own_take (m := r.length) own (by simp)
        rwa [Nat.mul_one, List.take_append_of_le_length (by rw [ptrs_length]; exact Nat.le_refl _), List.take_of_length_le (by rw [ptrs_length]; exact Nat.le_refl _)] at this
      have hsl := fun w => upto36 ⟨g, 0, none⟩ (r.length + 1) cap r.length (by simp at o3; omega) w
      have hnd : Nd wr b t l := hV.nds _ List.mem_cons_self
      have hnr : Nds wr r := fun x hx => hV.nds x (List.mem_cons_of_mem _ hx)
      have hln : r.length ≤ 8192 := by have h1 := len_le_meas _ hV.nds; have h2 := hV.ms; simp only [List.length_cons] at h1; omega
      have hsz : a.size + t.size ≤ 4096 := by
        have := congrArg ByteArray.size hV.txt
        simp only [rest, ByteArray.size_append] at this
        omega
      have HV : Hid (Vl w wr nb L T (.slice (some ⟨g, 0, none⟩) (r.length + 1) cap) ((b, t, l) :: r) a) := hV
      have HO : Hid (wr.ownsRow (w.heap.size + 2) 36 1 (.slice (some ⟨g, 0, none⟩) r.length cap) r.length (ptrs r) ∧ Nds wr r ∧ wr.heap[g]? = some (.cells cur 36 (0, 0))) := ⟨own', hnr, o2⟩
      clear own own' o1 o2 o4 o5 o6 hV hnr
      simp only [List.length_cons] at o3 ⊢
      cases hnd with
      | leaf hl1 hh =>
        have c0 : wr.cell? ⟨b, 0, none⟩ = some (.string t) := by rw [cell_heap hh]; rfl
        have c1 : wr.cell? ⟨b, 1, none⟩ = some (.pointer none) := by rw [cell_heap hh]; rfl
        have HW : Hid (Calls Try.prog 38 #[.pointer (some ⟨w.heap.size + 1, 0, none⟩), .string t] wr (fun e w' => e = .returned (.tuple #[.int .i64 t.size, .nilIface]) ∧ Lib.BuilderAtF 78 5 (w.heap.size + 1) (w.heap.size + 1) (.pointer (some ⟨w.heap.size + 1, 0, none⟩)) (Lib.byteCells a.data.toList ++ Lib.strCells t) w' ∧ Below (w.heap.size + 1) wr w' ∧ Lib.OthersKept 5 (some (w.heap.size + 1)) wr w')) :=
          Builder_WriteString_k _ _ _ t wr (Or.inr HV.out.bld) (by rw [Lib.byteCells_length]; simp; omega) (by have := HV.out.sz; omega)
        clear hh
        go_wp2_with (go_at_call 38; refine HW.out.mono ?_; clear HW; rintro e w5 ⟨rfl, hB5, b5, k5⟩)
        go_roundg (meas r)
        case measure => simp only [meas] at hM; omega
        case rel => exact ⟨r, a ++ t, HV.out.wrote HO.out.1 HO.out.2.1 hB5 b5 k5, Nat.le_refl _⟩
      | cat hh h1 h2 =>
        rename_i s' x' y' u1 u2 m1 m2
        have c1 : wr.cell? ⟨b, 1, none⟩ = some (.pointer (some ⟨x', 0, none⟩)) := by rw [cell_heap hh]; rfl
        have c2 : wr.cell? ⟨b, 2, none⟩ = some (.pointer (some ⟨y', 0, none⟩)) := by rw [cell_heap hh]; rfl
        have HN : Hid (Nd wr x' u1 m1 ∧ Nd wr y' u2 m2) := ⟨h1, h2⟩
        obtain ⟨i0, hi, hz0, hz1, hz2⟩ := info_parts info36
        have hsz2 := HV.out.sz
        clear h1 h2
        go_wp2_with fail
        have hownD : wr.drew.ownsRow (w.heap.size + 2) 36 1 (.slice (some ⟨g, 0, none⟩) r.length cap) r.length (ptrs r) := HO.out.1
        have hbw : b < wr.heap.size := lt_of_heap hh
        have sD : wr.drew.cell? ⟨b, 1, none⟩ = some (.pointer (some ⟨x', 0, none⟩)) ∧ wr.drew.cell? ⟨b, 2, none⟩ = some (.pointer (some ⟨y', 0, none⟩)) := ⟨c1, c2⟩
        have sA : ∀ o, (wr.drew.alloc o).cell? ⟨b, 1, none⟩ = some (.pointer (some ⟨x', 0, none⟩)) ∧ (wr.drew.alloc o).cell? ⟨b, 2, none⟩ = some (.pointer (some ⟨y', 0, none⟩)) := fun o => ⟨(World.cell?_alloc_lt _ _ _ (by exact hbw)).trans c1, (World.cell?_alloc_lt _ _ _ (by exact hbw)).trans c2⟩
        have hgb : g ≠ b := fun e => by
          have h1 := HO.out.2.2
          rw [e, hh] at h1
          simp [catO] at h1
        have HSD : Hid (wr.drew.cell? ⟨b, 1, none⟩ = some (.pointer (some ⟨x', 0, none⟩)) ∧ wr.drew.cell? ⟨b, 2, none⟩ = some (.pointer (some ⟨y', 0, none⟩))) := sD
        have HSA : Hid (∀ o, (wr.drew.alloc o).cell? ⟨b, 1, none⟩ = some (.pointer (some ⟨x', 0, none⟩)) ∧ (wr.drew.alloc o).cell? ⟨b, 2, none⟩ = some (.pointer (some ⟨y', 0, none⟩))) := sA
        clear sD sA hh
        go_region_held3 (fun w' : World => w'.cell? ⟨b, 1, none⟩ = some (.pointer (some ⟨x', 0, none⟩)) ∧ w'.cell? ⟨b, 2, none⟩ = some (.pointer (some ⟨y', 0, none⟩))) (first | exact HSD.out | exact HSA.out _ | exact s6) ((rw [if_pos (by rfl)]; refine wp_append_own _ _ _ 80 rfl (w.heap.size + 2) 36 i0 (.pointer none) 1 8 Try.underlying80 hi hz0 hz1 hz2 rfl (by decide) _ _ _ rfl (hownD.alloc _) ⟨wr.heap.size, 0, none⟩ 2 2 [.pointer (some ⟨y', 0, none⟩), .pointer (some ⟨x', 0, none⟩)] rfl rfl (two_new _ _ _ _ (by simp)) (two_one _ _) (by unfold maxLen; omega) (by omega) (by simp; omega) ?_; intro v6 w6 own6 g6 nil6; have s6 : w6.cell? ⟨b, 1, none⟩ = some (.pointer (some ⟨x', 0, none⟩)) ∧ w6.cell? ⟨b, 2, none⟩ = some (.pointer (some ⟨y', 0, none⟩)) := ⟨(g6.cell (HSA.out _).1 (fun e => hgb (by cases e; rfl))), (g6.cell (HSA.out _).2 (fun e => hgb (by cases e; rfl)))⟩))
        have gr : wr.grownBy w6 (some g) := ⟨g6.os, g6.tape, g6.output, Nat.le_trans (by simp) g6.size, fun i hi hne => (g6.block i (by simp; omega) hne).trans (Lib.alloc_old _ _ _ hi)⟩
        have hP := HV.out.parted HN.out.1 HN.out.2 HO.out.2.1 own6 gr (fun k e => by
          cases e
          exact ⟨(HO.out.1.lt g rfl).1, _, HO.out.2.2⟩)
        have p1 := HN.out.1.pos
        have p2 := HN.out.2.pos
        have HP : Hid (Vl w w6 nb L T v6 ((x', u1, m1) :: (y', u2, m2) :: r) a) := hP
        clear hP own6 g6 gr nil6 hownD
        go_wp2_with fail
        go_roundg (meas ((x', u1, m1) :: (y', u2, m2) :: r))
        case measure => simp only [meas] at hM ⊢; omega
        case rel => exact ⟨_, a, HP.out, Nat.le_refl _⟩
end Go.Proofs.Qxb6002359a.M
