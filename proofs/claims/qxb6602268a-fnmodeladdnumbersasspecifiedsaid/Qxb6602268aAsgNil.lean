/- assigns of a nil map. -/
import Derived.Test.Qxb6602268aAsg
import Derived.Laws.IdiomRangeMap
namespace Go.Proofs.Qxb6602268a.M
open Go.ChangeShapes Go.WideShapes Go.ChangeAt Go.RowKit Go.Maps
set_option linter.unusedVariables false

set_option maxRecDepth 100000 in
set_option maxHeartbeats 1600000 in
theorem assigns_nil (w : World) (mb kb vb : Nat) (tx : ByteArray → Option ByteArray) (st : NS) (TK : Tab 9 slit w kb (IT st.kf) st.ks) (TV : Tab 9 slit w vb (IT st.vf) st.vs) :
    Calls Try.prog 49 #[.pointer (some ⟨mb, 0, none⟩), .map none] w (fun e w' => RetAsg w w' e kb vb (fun _ => none) tx st) := by
  have HT : Hid (Tab 9 slit w kb (IT st.kf) st.ks ∧ Tab 9 slit w vb (IT st.vf) st.vs) := ⟨TK, TV⟩
  have hln : ∀ (w : World) ty, _ := fun w ty => Maps.len_nil (P := Try.prog) (w := w) Try.underlying46 ty
  have hrg : ∀ w : World, _ := fun w => run_range_nilMap (P := Try.prog) w 46 9 81 Try.underlying46
  obtain ⟨i0, hi, hz0, hz1, hz2⟩ := info_parts info91
  clear TK TV
  go_enter Try.func49, Try.ntmps49
  go_wp2_with (at_make; refine wpList_make_own _ rfl _ _ 72 rfl w.heap.size 91 i0 (.agg #[.int .i32 0, .int .i32 0]) 2 Try.underlying72 hi hz0 hz1 .i64 .i64 _ 0 rfl rfl rfl (by rw [hz2]; omega) (by unfold maxLen; omega) (by simp) ?_; intro w1 hown1 hg1)
  have hnx : ∀ ty, _ := fun ty => run_next_nilMap (P := Try.prog) w1 ty 0 0 #[]
  refine wp_loop_rounds 1 ?_
  rw [rounds_succ]
  go_wp2_with fail
  go_ret
  have hg2 : w1.grownBy (w1.alloc (.mapIter none 0 #[] 0)) none := World.grownBy_alloc _ _ _
  exact ⟨[], _, rfl, List.nodup_nil, by simp, (HT.out.1.grown hg1 (by simp)).grown hg2 (by simp), (HT.out.2.grown hg1 (by simp)).grown hg2 (by simp), by simpa [flat, nout] using hown1.alloc _, ((Two.refl _ _ _).grown hg1 (fun j e => by cases e)).grown hg2 (fun j e => by cases e)⟩

end Go.Proofs.Qxb6602268a.M
