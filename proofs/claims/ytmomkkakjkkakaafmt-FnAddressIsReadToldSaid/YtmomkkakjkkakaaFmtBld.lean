/-
  LAYINGS at this program: strings.Builder's copyCheck, WriteString; and WriteRune by its own walk.
-/
import Derived.Test.YtmomkkakjkkakaaFmtShelf
namespace Go.Proofs
open Go.Shelf
def Tryf.lays240_ren : Go.Shelf.Ren := ⟨fun | 240 => 92 | 276 => 98 | n => n, fun | 0 => 0 | 4 => 4 | 9 => 9 | 20 => 20 | 37 => 31 | 70 => 109 | 72 => 111 | 164 => 137 | n => n, fun | n => n⟩
theorem Tryf.lays240 : Go.Proofs.Lays.n240 Tryf.prog Tryf.lays240_ren := {
  mixed := by kernel_rfl
  f240 := Tryf.func92.trans (congrArg some (by kernel_rfl))
  f276 := Tryf.func98.trans (congrArg some (by kernel_rfl))
  t0 := Tryf.underlying0
  a0 := Tryf.isAgg0
  z0 := Tryf.sizeOf0
  v0 := Tryf.zeroValue0
  t4 := Tryf.underlying4
  a4 := Tryf.isAgg4
  z4 := Tryf.sizeOf4
  v4 := Tryf.zeroValue4
  t9 := Tryf.underlying9
  a9 := Tryf.isAgg9
  z9 := Tryf.sizeOf9
  v9 := Tryf.zeroValue9
  t20 := Tryf.underlying20
  a20 := Tryf.isAgg20
  z20 := Tryf.sizeOf20
  v20 := Tryf.zeroValue20
  t70 := Tryf.underlying109
  a70 := Tryf.isAgg109
  z70 := Tryf.sizeOf109
  v70 := Tryf.zeroValue109
  t72 := Tryf.underlying111
  a72 := Tryf.isAgg111
  z72 := Tryf.sizeOf111
  v72 := Tryf.zeroValue111
  t164 := Tryf.underlying137
  a164 := Tryf.isAgg137
  z164 := Tryf.sizeOf137
  v164 := Tryf.zeroValue137 }
theorem Tryf.Builder_X72_240 : Builder.X72 Tryf.prog Tryf.lays240_ren := {
  sizeBuilder := by kernel_rfl
  liesBuilder := by kernel_rfl }
def Tryf.lays166_ren : Go.Shelf.Ren := ⟨fun | 166 => 76 | 240 => 92 | 276 => 98 | n => n, fun | 0 => 0 | 3 => 3 | 4 => 4 | 9 => 9 | 20 => 20 | 37 => 31 | 70 => 109 | 72 => 111 | 75 => 113 | 80 => 88 | 164 => 137 | n => n, fun | n => n⟩
theorem Tryf.lays166 : Go.Proofs.Lays.n166 Tryf.prog Tryf.lays166_ren := {
  mixed := by kernel_rfl
  f166 := Tryf.func76.trans (congrArg some (by kernel_rfl))
  f240 := Tryf.func92.trans (congrArg some (by kernel_rfl))
  f276 := Tryf.func98.trans (congrArg some (by kernel_rfl))
  t0 := Tryf.underlying0
  a0 := Tryf.isAgg0
  z0 := Tryf.sizeOf0
  v0 := Tryf.zeroValue0
  t3 := Tryf.underlying3
  a3 := Tryf.isAgg3
  z3 := Tryf.sizeOf3
  v3 := Tryf.zeroValue3
  t4 := Tryf.underlying4
  a4 := Tryf.isAgg4
  z4 := Tryf.sizeOf4
  v4 := Tryf.zeroValue4
  t9 := Tryf.underlying9
  a9 := Tryf.isAgg9
  z9 := Tryf.sizeOf9
  v9 := Tryf.zeroValue9
  t20 := Tryf.underlying20
  a20 := Tryf.isAgg20
  z20 := Tryf.sizeOf20
  v20 := Tryf.zeroValue20
  t37 := Tryf.underlying31
  a37 := Tryf.isAgg31
  z37 := Tryf.sizeOf31
  v37 := Tryf.zeroValue31
  t70 := Tryf.underlying109
  a70 := Tryf.isAgg109
  z70 := Tryf.sizeOf109
  v70 := Tryf.zeroValue109
  t72 := Tryf.underlying111
  a72 := Tryf.isAgg111
  z72 := Tryf.sizeOf111
  v72 := Tryf.zeroValue111
  t75 := Tryf.underlying113
  a75 := Tryf.isAgg113
  z75 := Tryf.sizeOf113
  v75 := Tryf.zeroValue113
  t164 := Tryf.underlying137
  a164 := Tryf.isAgg137
  z164 := Tryf.sizeOf137
  v164 := Tryf.zeroValue137 }
theorem Tryf.Builder_Extra_166 : Builder.Extra Tryf.prog Tryf.lays166_ren := {
  sizeBuilder := by kernel_rfl
  liesBuilder := by kernel_rfl
  t5 := Tryf.underlying5
  a5 := Tryf.isAgg5
  z5 := Tryf.sizeOf5
  v5 := Tryf.zeroValue5
  infoByte := by kernel_rfl
  cellsByte := by kernel_rfl
  sizeByte := by kernel_rfl
  neB5 := by decide }
def Tryf.lays168_ren : Go.Shelf.Ren := ⟨fun | 168 => 77 | 240 => 92 | 242 => 93 | 276 => 98 | 278 => 99 | n => n, fun | 0 => 0 | 3 => 3 | 4 => 4 | 5 => 5 | 9 => 9 | 20 => 20 | 21 => 21 | 37 => 31 | 46 => 89 | 51 => 59 | 70 => 109 | 72 => 111 | 75 => 113 | 80 => 88 | 164 => 137 | n => n, fun | n => n⟩
theorem Tryf.lays168 : Go.Proofs.Lays.n168 Tryf.prog Tryf.lays168_ren := {
  mixed := by kernel_rfl
  f168 := Tryf.func77.trans (congrArg some (by kernel_rfl))
  f240 := Tryf.func92.trans (congrArg some (by kernel_rfl))
  f242 := Tryf.func93.trans (congrArg some (by kernel_rfl))
  f276 := Tryf.func98.trans (congrArg some (by kernel_rfl))
  f278 := Tryf.func99.trans (congrArg some (by kernel_rfl))
  t0 := Tryf.underlying0
  a0 := Tryf.isAgg0
  z0 := Tryf.sizeOf0
  v0 := Tryf.zeroValue0
  t3 := Tryf.underlying3
  a3 := Tryf.isAgg3
  z3 := Tryf.sizeOf3
  v3 := Tryf.zeroValue3
  t4 := Tryf.underlying4
  a4 := Tryf.isAgg4
  z4 := Tryf.sizeOf4
  v4 := Tryf.zeroValue4
  t5 := Tryf.underlying5
  a5 := Tryf.isAgg5
  z5 := Tryf.sizeOf5
  v5 := Tryf.zeroValue5
  t9 := Tryf.underlying9
  a9 := Tryf.isAgg9
  z9 := Tryf.sizeOf9
  v9 := Tryf.zeroValue9
  t20 := Tryf.underlying20
  a20 := Tryf.isAgg20
  z20 := Tryf.sizeOf20
  v20 := Tryf.zeroValue20
  t21 := Tryf.underlying21
  a21 := Tryf.isAgg21
  z21 := Tryf.sizeOf21
  v21 := Tryf.zeroValue21
  t37 := Tryf.underlying31
  a37 := Tryf.isAgg31
  z37 := Tryf.sizeOf31
  v37 := Tryf.zeroValue31
  t46 := Tryf.underlying89
  a46 := Tryf.isAgg89
  z46 := Tryf.sizeOf89
  v46 := Tryf.zeroValue89
  t51 := Tryf.underlying59
  a51 := Tryf.isAgg59
  z51 := Tryf.sizeOf59
  v51 := Tryf.zeroValue59
  t70 := Tryf.underlying109
  a70 := Tryf.isAgg109
  z70 := Tryf.sizeOf109
  v70 := Tryf.zeroValue109
  t72 := Tryf.underlying111
  a72 := Tryf.isAgg111
  z72 := Tryf.sizeOf111
  v72 := Tryf.zeroValue111
  t75 := Tryf.underlying113
  a75 := Tryf.isAgg113
  z75 := Tryf.sizeOf113
  v75 := Tryf.zeroValue113
  t164 := Tryf.underlying137
  a164 := Tryf.isAgg137
  z164 := Tryf.sizeOf137
  v164 := Tryf.zeroValue137 }
theorem Tryf.Builder_Extra_168 : Builder.Extra Tryf.prog Tryf.lays168_ren := {
  sizeBuilder := by kernel_rfl
  liesBuilder := by kernel_rfl
  t5 := Tryf.underlying5
  a5 := Tryf.isAgg5
  z5 := Tryf.sizeOf5
  v5 := Tryf.zeroValue5
  infoByte := by kernel_rfl
  cellsByte := by kernel_rfl
  sizeByte := by kernel_rfl
  neB5 := by decide }
open Go.RowKit in
theorem Tryf.wString (B b : Nat) (bs : List Value) (s : ByteArray) (w : World) (h : Lib.IsBuilderF 111 5 B b bs w) (hlen : bs.length + s.size ≤ 140737488355328) (hBw : B ≤ w.heap.size) :
    Calls Tryf.prog 76 #[.pointer (some ⟨b, 0, none⟩), .string s] w fun e w' => e = .returned (.tuple #[.int .i64 s.size, .nilIface]) ∧ (Lib.BuilderAtF 111 5 B b (.pointer (some ⟨b, 0, none⟩)) (bs ++ Lib.strCells s) w' ∧ Below B w w' ∧ Lib.OthersKept 5 (some b) w w') :=
  Any.Builder_WriteString_k Tryf.lays166 Tryf.Builder_Extra_166 B b bs s w h hlen hBw
open Go.RowKit in
theorem Tryf.wRune (B b : Nat) (bs : List Value) (r : Int) (hr0 : -2147483648 ≤ r) (hr1 : r ≤ 2147483647) (w : World) (h : Lib.IsBuilderF 111 5 B b bs w) (hlen : bs.length + 4 ≤ 140737488355328) (hBw : B ≤ w.heap.size) :
    Calls Tryf.prog 77 #[.pointer (some ⟨b, 0, none⟩), .int .i32 r] w fun e w' => e = .returned (.tuple #[.int .i64 (Lib.runeCells r).length, .nilIface]) ∧ (Lib.BuilderAtF 111 5 B b (.pointer (some ⟨b, 0, none⟩)) (bs ++ Lib.runeCells r) w' ∧ Below B w w' ∧ Lib.OthersKept 5 (some b) w w') :=
  Any.Builder_WriteRune_k Tryf.lays168 Tryf.Builder_Extra_168 B b bs r hr0 hr1 w h hlen hBw
end Go.Proofs
