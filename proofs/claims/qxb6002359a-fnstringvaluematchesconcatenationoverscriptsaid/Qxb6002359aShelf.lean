/- The shelf's contracts on strings.Builder at this program (the first by the shelf's tool, WriteString's after it by hand). -/
import Derived.Shelf.Strings.Builder1
import Derived.Shelf.Strings.Builder2
import Derived.Shelf.Strings.BuilderF
import Derived.Shelf.Strings.BuilderK
import Derived.Test.Qxb6002359aProg
namespace Go.Proofs.Qxb6002359a.M
open Go.Shelf Go.RowKit
def lays169_ren : Go.Shelf.Ren := ⟨fun | 169 => 39 | n => n, fun | 70 => 76 | 9 => 9 | 0 => 0 | 72 => 78 | 37 => 30 | 127 => 92 | 3 => 3 | 5 => 5 | n => n, fun | n => n⟩
theorem lays169 : Go.Proofs.Lays.n169 Try.prog lays169_ren := {
  mixed := by kernel_rfl
  f169 := Try.func39.trans (congrArg some (by kernel_rfl))
  t0 := Try.underlying0
  a0 := Try.isAgg0
  z0 := Try.sizeOf0
  v0 := Try.zeroValue0
  t3 := Try.underlying3
  a3 := Try.isAgg3
  z3 := Try.sizeOf3
  v3 := Try.zeroValue3
  t9 := Try.underlying9
  a9 := Try.isAgg9
  z9 := Try.sizeOf9
  v9 := Try.zeroValue9
  t37 := Try.underlying30
  a37 := Try.isAgg30
  z37 := Try.sizeOf30
  v37 := Try.zeroValue30
  t70 := Try.underlying76
  a70 := Try.isAgg76
  z70 := Try.sizeOf76
  v70 := Try.zeroValue76
  t72 := Try.underlying78
  a72 := Try.isAgg78
  z72 := Try.sizeOf78
  v72 := Try.zeroValue78
  t127 := Try.underlying92
  a127 := Try.isAgg92
  z127 := Try.sizeOf92
  v127 := Try.zeroValue92 }
theorem Builder_Extra_169 : Builder.Extra Try.prog lays169_ren := {
  sizeBuilder := by kernel_rfl
  liesBuilder := by kernel_rfl
  t5 := Try.underlying5
  a5 := Try.isAgg5
  z5 := Try.sizeOf5
  v5 := Try.zeroValue5
  infoByte := by kernel_rfl
  cellsByte := by kernel_rfl
  sizeByte := by kernel_rfl
  neB5 := by decide }
theorem Builder_String_any_k (B b : Nat) (l : List UInt8) (w : World) (h : Lib.IsBuilderF 78 5 B b (Lib.byteCells l) w) (hBw : B ≤ w.heap.size) :
    Calls Try.prog 39 #[.pointer (some ⟨b, 0, none⟩)] w fun e w' => e = .returned (.string ⟨l.toArray⟩) ∧ (Lib.IsBuilderF 78 5 B b (Lib.byteCells l) w' ∧ Below B w w' ∧ Lib.OthersKept 5 (some b) w w') := Any.Builder_String_any_k lays169 Builder_Extra_169 B b l w h hBw
def lays165_ren : Go.Shelf.Ren := ⟨fun | 165 => 37 | 240 => 56 | 241 => 57 | 276 => 65 | 277 => 66 | n => n, fun | 70 => 76 | 3 => 3 | 0 => 0 | 4 => 4 | 9 => 9 | 20 => 20 | 72 => 78 | 37 => 30 | 164 => 99 | 5 => 5 | n => n, fun | n => n⟩
theorem lays165 : Go.Proofs.Lays.n165 Try.prog lays165_ren := {
  mixed := by kernel_rfl
  f165 := Try.func37.trans (congrArg some (by kernel_rfl))
  f240 := Try.func56.trans (congrArg some (by kernel_rfl))
  f241 := Try.func57.trans (congrArg some (by kernel_rfl))
  f276 := Try.func65.trans (congrArg some (by kernel_rfl))
  f277 := Try.func66.trans (congrArg some (by kernel_rfl))
  t0 := Try.underlying0
  a0 := Try.isAgg0
  z0 := Try.sizeOf0
  v0 := Try.zeroValue0
  t3 := Try.underlying3
  a3 := Try.isAgg3
  z3 := Try.sizeOf3
  v3 := Try.zeroValue3
  t4 := Try.underlying4
  a4 := Try.isAgg4
  z4 := Try.sizeOf4
  v4 := Try.zeroValue4
  t9 := Try.underlying9
  a9 := Try.isAgg9
  z9 := Try.sizeOf9
  v9 := Try.zeroValue9
  t20 := Try.underlying20
  a20 := Try.isAgg20
  z20 := Try.sizeOf20
  v20 := Try.zeroValue20
  t37 := Try.underlying30
  a37 := Try.isAgg30
  z37 := Try.sizeOf30
  v37 := Try.zeroValue30
  t70 := Try.underlying76
  a70 := Try.isAgg76
  z70 := Try.sizeOf76
  v70 := Try.zeroValue76
  t72 := Try.underlying78
  a72 := Try.isAgg78
  z72 := Try.sizeOf78
  v72 := Try.zeroValue78
  t164 := Try.underlying99
  a164 := Try.isAgg99
  z164 := Try.sizeOf99
  v164 := Try.zeroValue99 }
theorem Builder_Extra_165 : Builder.Extra Try.prog lays165_ren := {
  sizeBuilder := by kernel_rfl
  liesBuilder := by kernel_rfl
  t5 := Try.underlying5
  a5 := Try.isAgg5
  z5 := Try.sizeOf5
  v5 := Try.zeroValue5
  infoByte := by kernel_rfl
  cellsByte := by kernel_rfl
  sizeByte := by kernel_rfl
  neB5 := by decide }
theorem Builder_Grow_fresh (B b n : Nat) (w : World) (hB : B ≤ b) (hbk : w.heap[b]? = some (.cells #[.pointer none, .slice none 0 0] 78 (0, 0))) (hBw : B ≤ w.heap.size) (hn : n ≤ 281474976710656) :
    Calls Try.prog 37 #[.pointer (some ⟨b, 0, none⟩), .int .i64 n] w fun e w' => e = .returned (.tuple #[]) ∧ (Lib.BuilderAt 78 5 B b (.pointer (some ⟨b, 0, none⟩)) [] w' ∧ Below B w w') := Any.Builder_Grow_fresh lays165 Builder_Extra_165 B b n w hB hbk hBw hn
def lays166_ren : Go.Shelf.Ren := ⟨fun | 166 => 38 | 240 => 56 | 276 => 65 | n => n, fun | 70 => 76 | 3 => 3 | 0 => 0 | 4 => 4 | 9 => 9 | 20 => 20 | 72 => 78 | 37 => 30 | 164 => 99 | 5 => 5 | 75 => 82 | 80 => 60 | n => n, fun | n => n⟩
theorem lays166 : Go.Proofs.Lays.n166 Try.prog lays166_ren := {
  mixed := by kernel_rfl
  f166 := Try.func38.trans (congrArg some (by kernel_rfl))
  f240 := Try.func56.trans (congrArg some (by kernel_rfl))
  f276 := Try.func65.trans (congrArg some (by kernel_rfl))
  t0 := Try.underlying0
  a0 := Try.isAgg0
  z0 := Try.sizeOf0
  v0 := Try.zeroValue0
  t3 := Try.underlying3
  a3 := Try.isAgg3
  z3 := Try.sizeOf3
  v3 := Try.zeroValue3
  t4 := Try.underlying4
  a4 := Try.isAgg4
  z4 := Try.sizeOf4
  v4 := Try.zeroValue4
  t9 := Try.underlying9
  a9 := Try.isAgg9
  z9 := Try.sizeOf9
  v9 := Try.zeroValue9
  t20 := Try.underlying20
  a20 := Try.isAgg20
  z20 := Try.sizeOf20
  v20 := Try.zeroValue20
  t37 := Try.underlying30
  a37 := Try.isAgg30
  z37 := Try.sizeOf30
  v37 := Try.zeroValue30
  t70 := Try.underlying76
  a70 := Try.isAgg76
  z70 := Try.sizeOf76
  v70 := Try.zeroValue76
  t72 := Try.underlying78
  a72 := Try.isAgg78
  z72 := Try.sizeOf78
  v72 := Try.zeroValue78
  t75 := Try.underlying82
  a75 := Try.isAgg82
  z75 := Try.sizeOf82
  v75 := Try.zeroValue82
  t164 := Try.underlying99
  a164 := Try.isAgg99
  z164 := Try.sizeOf99
  v164 := Try.zeroValue99 }
theorem Builder_Extra_166 : Builder.Extra Try.prog lays166_ren := {
  sizeBuilder := by kernel_rfl
  liesBuilder := by kernel_rfl
  t5 := Try.underlying5
  a5 := Try.isAgg5
  z5 := Try.sizeOf5
  v5 := Try.zeroValue5
  infoByte := by kernel_rfl
  cellsByte := by kernel_rfl
  sizeByte := by kernel_rfl
  neB5 := by decide }
theorem Builder_WriteString_k (B b : Nat) (bs : List Value) (s : ByteArray) (w : World) (h : Lib.IsBuilderF 78 5 B b bs w) (hlen : bs.length + s.size ≤ 140737488355328) (hBw : B ≤ w.heap.size) :
    Calls Try.prog 38 #[.pointer (some ⟨b, 0, none⟩), .string s] w fun e w' => e = .returned (.tuple #[.int .i64 s.size, .nilIface]) ∧ Lib.BuilderAtF 78 5 B b (.pointer (some ⟨b, 0, none⟩)) (bs ++ Lib.strCells s) w' ∧ Below B w w' ∧ Lib.OthersKept 5 (some b) w w' := Any.Builder_WriteString_k lays166 Builder_Extra_166 B b bs s w h hlen hBw

end Go.Proofs.Qxb6002359a.M
