/-
  LAYINGS at this program: strings.Builder's copyCheck, WriteString; and WriteRune by its own walk.
-/
import Derived.Test.YtmomkkakjkkakaaDoorShelf
namespace Go.Proofs
open Go.Shelf
def Tryd.lays240_ren : Go.Shelf.Ren := ⟨fun | 240 => 44 | 276 => 50 | n => n, fun | 0 => 0 | 4 => 4 | 9 => 9 | 20 => 20 | 37 => 51 | 70 => 50 | 72 => 53 | 164 => 67 | n => n, fun | n => n⟩
theorem Tryd.lays240 : Go.Proofs.Lays.n240 Tryd.prog Tryd.lays240_ren := {
  mixed := by kernel_rfl
  f240 := Tryd.func44.trans (congrArg some (by kernel_rfl))
  f276 := Tryd.func50.trans (congrArg some (by kernel_rfl))
  t0 := Tryd.underlying0
  a0 := Tryd.isAgg0
  z0 := Tryd.sizeOf0
  v0 := Tryd.zeroValue0
  t4 := Tryd.underlying4
  a4 := Tryd.isAgg4
  z4 := Tryd.sizeOf4
  v4 := Tryd.zeroValue4
  t9 := Tryd.underlying9
  a9 := Tryd.isAgg9
  z9 := Tryd.sizeOf9
  v9 := Tryd.zeroValue9
  t20 := Tryd.underlying20
  a20 := Tryd.isAgg20
  z20 := Tryd.sizeOf20
  v20 := Tryd.zeroValue20
  t70 := Tryd.underlying50
  a70 := Tryd.isAgg50
  z70 := Tryd.sizeOf50
  v70 := Tryd.zeroValue50
  t72 := Tryd.underlying53
  a72 := Tryd.isAgg53
  z72 := Tryd.sizeOf53
  v72 := Tryd.zeroValue53
  t164 := Tryd.underlying67
  a164 := Tryd.isAgg67
  z164 := Tryd.sizeOf67
  v164 := Tryd.zeroValue67 }
theorem Tryd.Builder_X72_240 : Builder.X72 Tryd.prog Tryd.lays240_ren := {
  sizeBuilder := by kernel_rfl
  liesBuilder := by kernel_rfl }
def Tryd.lays166_ren : Go.Shelf.Ren := ⟨fun | 166 => 28 | 240 => 44 | 276 => 50 | n => n, fun | 0 => 0 | 3 => 3 | 4 => 4 | 9 => 9 | 20 => 20 | 37 => 51 | 70 => 50 | 72 => 53 | 75 => 55 | 80 => 49 | 164 => 67 | n => n, fun | n => n⟩
theorem Tryd.lays166 : Go.Proofs.Lays.n166 Tryd.prog Tryd.lays166_ren := {
  mixed := by kernel_rfl
  f166 := Tryd.func28.trans (congrArg some (by kernel_rfl))
  f240 := Tryd.func44.trans (congrArg some (by kernel_rfl))
  f276 := Tryd.func50.trans (congrArg some (by kernel_rfl))
  t0 := Tryd.underlying0
  a0 := Tryd.isAgg0
  z0 := Tryd.sizeOf0
  v0 := Tryd.zeroValue0
  t3 := Tryd.underlying3
  a3 := Tryd.isAgg3
  z3 := Tryd.sizeOf3
  v3 := Tryd.zeroValue3
  t4 := Tryd.underlying4
  a4 := Tryd.isAgg4
  z4 := Tryd.sizeOf4
  v4 := Tryd.zeroValue4
  t9 := Tryd.underlying9
  a9 := Tryd.isAgg9
  z9 := Tryd.sizeOf9
  v9 := Tryd.zeroValue9
  t20 := Tryd.underlying20
  a20 := Tryd.isAgg20
  z20 := Tryd.sizeOf20
  v20 := Tryd.zeroValue20
  t37 := Tryd.underlying51
  a37 := Tryd.isAgg51
  z37 := Tryd.sizeOf51
  v37 := Tryd.zeroValue51
  t70 := Tryd.underlying50
  a70 := Tryd.isAgg50
  z70 := Tryd.sizeOf50
  v70 := Tryd.zeroValue50
  t72 := Tryd.underlying53
  a72 := Tryd.isAgg53
  z72 := Tryd.sizeOf53
  v72 := Tryd.zeroValue53
  t75 := Tryd.underlying55
  a75 := Tryd.isAgg55
  z75 := Tryd.sizeOf55
  v75 := Tryd.zeroValue55
  t164 := Tryd.underlying67
  a164 := Tryd.isAgg67
  z164 := Tryd.sizeOf67
  v164 := Tryd.zeroValue67 }
theorem Tryd.Builder_Extra_166 : Builder.Extra Tryd.prog Tryd.lays166_ren := {
  sizeBuilder := by kernel_rfl
  liesBuilder := by kernel_rfl
  t5 := Tryd.underlying5
  a5 := Tryd.isAgg5
  z5 := Tryd.sizeOf5
  v5 := Tryd.zeroValue5
  infoByte := by kernel_rfl
  cellsByte := by kernel_rfl
  sizeByte := by kernel_rfl
  neB5 := by decide }
def Tryd.lays168_ren : Go.Shelf.Ren := ⟨fun | 168 => 30 | 240 => 44 | 242 => 46 | 276 => 50 | 278 => 51 | n => n, fun | 0 => 0 | 3 => 3 | 4 => 4 | 5 => 5 | 9 => 9 | 20 => 20 | 21 => 21 | 37 => 51 | 46 => 37 | 51 => 73 | 70 => 50 | 72 => 53 | 75 => 55 | 80 => 49 | 164 => 67 | n => n, fun | n => n⟩
theorem Tryd.lays168 : Go.Proofs.Lays.n168 Tryd.prog Tryd.lays168_ren := {
  mixed := by kernel_rfl
  f168 := Tryd.func30.trans (congrArg some (by kernel_rfl))
  f240 := Tryd.func44.trans (congrArg some (by kernel_rfl))
  f242 := Tryd.func46.trans (congrArg some (by kernel_rfl))
  f276 := Tryd.func50.trans (congrArg some (by kernel_rfl))
  f278 := Tryd.func51.trans (congrArg some (by kernel_rfl))
  t0 := Tryd.underlying0
  a0 := Tryd.isAgg0
  z0 := Tryd.sizeOf0
  v0 := Tryd.zeroValue0
  t3 := Tryd.underlying3
  a3 := Tryd.isAgg3
  z3 := Tryd.sizeOf3
  v3 := Tryd.zeroValue3
  t4 := Tryd.underlying4
  a4 := Tryd.isAgg4
  z4 := Tryd.sizeOf4
  v4 := Tryd.zeroValue4
  t5 := Tryd.underlying5
  a5 := Tryd.isAgg5
  z5 := Tryd.sizeOf5
  v5 := Tryd.zeroValue5
  t9 := Tryd.underlying9
  a9 := Tryd.isAgg9
  z9 := Tryd.sizeOf9
  v9 := Tryd.zeroValue9
  t20 := Tryd.underlying20
  a20 := Tryd.isAgg20
  z20 := Tryd.sizeOf20
  v20 := Tryd.zeroValue20
  t21 := Tryd.underlying21
  a21 := Tryd.isAgg21
  z21 := Tryd.sizeOf21
  v21 := Tryd.zeroValue21
  t37 := Tryd.underlying51
  a37 := Tryd.isAgg51
  z37 := Tryd.sizeOf51
  v37 := Tryd.zeroValue51
  t46 := Tryd.underlying37
  a46 := Tryd.isAgg37
  z46 := Tryd.sizeOf37
  v46 := Tryd.zeroValue37
  t51 := Tryd.underlying73
  a51 := Tryd.isAgg73
  z51 := Tryd.sizeOf73
  v51 := Tryd.zeroValue73
  t70 := Tryd.underlying50
  a70 := Tryd.isAgg50
  z70 := Tryd.sizeOf50
  v70 := Tryd.zeroValue50
  t72 := Tryd.underlying53
  a72 := Tryd.isAgg53
  z72 := Tryd.sizeOf53
  v72 := Tryd.zeroValue53
  t75 := Tryd.underlying55
  a75 := Tryd.isAgg55
  z75 := Tryd.sizeOf55
  v75 := Tryd.zeroValue55
  t164 := Tryd.underlying67
  a164 := Tryd.isAgg67
  z164 := Tryd.sizeOf67
  v164 := Tryd.zeroValue67 }
theorem Tryd.Builder_Extra_168 : Builder.Extra Tryd.prog Tryd.lays168_ren := {
  sizeBuilder := by kernel_rfl
  liesBuilder := by kernel_rfl
  t5 := Tryd.underlying5
  a5 := Tryd.isAgg5
  z5 := Tryd.sizeOf5
  v5 := Tryd.zeroValue5
  infoByte := by kernel_rfl
  cellsByte := by kernel_rfl
  sizeByte := by kernel_rfl
  neB5 := by decide }
open Go.RowKit in
theorem Tryd.wString (B b : Nat) (bs : List Value) (s : ByteArray) (w : World) (h : Lib.IsBuilderF 53 5 B b bs w) (hlen : bs.length + s.size ≤ 140737488355328) (hBw : B ≤ w.heap.size) :
    Calls Tryd.prog 28 #[.pointer (some ⟨b, 0, none⟩), .string s] w fun e w' => e = .returned (.tuple #[.int .i64 s.size, .nilIface]) ∧ (Lib.BuilderAtF 53 5 B b (.pointer (some ⟨b, 0, none⟩)) (bs ++ Lib.strCells s) w' ∧ Below B w w' ∧ Lib.OthersKept 5 (some b) w w') :=
  Any.Builder_WriteString_k Tryd.lays166 Tryd.Builder_Extra_166 B b bs s w h hlen hBw
open Go.RowKit in
theorem Tryd.wRune (B b : Nat) (bs : List Value) (r : Int) (hr0 : -2147483648 ≤ r) (hr1 : r ≤ 2147483647) (w : World) (h : Lib.IsBuilderF 53 5 B b bs w) (hlen : bs.length + 4 ≤ 140737488355328) (hBw : B ≤ w.heap.size) :
    Calls Tryd.prog 30 #[.pointer (some ⟨b, 0, none⟩), .int .i32 r] w fun e w' => e = .returned (.tuple #[.int .i64 (Lib.runeCells r).length, .nilIface]) ∧ (Lib.BuilderAtF 53 5 B b (.pointer (some ⟨b, 0, none⟩)) (bs ++ Lib.runeCells r) w' ∧ Below B w w' ∧ Lib.OthersKept 5 (some b) w w') :=
  Any.Builder_WriteRune_k Tryd.lays168 Tryd.Builder_Extra_168 B b bs r hr0 hr1 w h hlen hBw
end Go.Proofs
