/-
  LAYING at this program: utf8.EncodeRune.
-/
import Derived.Test.YtmomkkakjkkakaaFmtShelf
import Derived.Shelf.Spec.EncodeRune
namespace Go.Proofs
open Go.Shelf
def Tryf.lay7_30_ren : Go.Shelf.Ren := ⟨fun | 30 => 87 | 47 => 95 | n => n, fun | 0 => 0 | 3 => 3 | 4 => 4 | 5 => 5 | 21 => 21 | 25 => 89 | 27 => 59 | 30 => 31 | n => n, fun | n => n⟩
theorem Tryf.lay7_30 : Go.Proofs.Lays7.n30 Tryf.prog Tryf.lay7_30_ren := {
  mixed := by kernel_rfl
  f30 := Tryf.func87.trans (congrArg some (by kernel_rfl))
  f47 := Tryf.func95.trans (congrArg some (by kernel_rfl))
  t0 := Tryf.underlying0
  a0 := Tryf.isAgg0
  z0 := Tryf.sizeOf0
  v0 := Tryf.zeroValue0
  i0 := by kernel_rfl
  t3 := Tryf.underlying3
  a3 := Tryf.isAgg3
  z3 := Tryf.sizeOf3
  v3 := Tryf.zeroValue3
  i3 := by kernel_rfl
  t4 := Tryf.underlying4
  a4 := Tryf.isAgg4
  z4 := Tryf.sizeOf4
  v4 := Tryf.zeroValue4
  i4 := by kernel_rfl
  t5 := Tryf.underlying5
  a5 := Tryf.isAgg5
  z5 := Tryf.sizeOf5
  v5 := Tryf.zeroValue5
  i5 := by kernel_rfl
  t21 := Tryf.underlying21
  a21 := Tryf.isAgg21
  z21 := Tryf.sizeOf21
  v21 := Tryf.zeroValue21
  i21 := by kernel_rfl
  t25 := Tryf.underlying89
  a25 := Tryf.isAgg89
  z25 := Tryf.sizeOf89
  v25 := Tryf.zeroValue89
  i25 := by kernel_rfl
  t27 := Tryf.underlying59
  a27 := Tryf.isAgg59
  z27 := Tryf.sizeOf59
  v27 := Tryf.zeroValue59
  i27 := by kernel_rfl
  t30 := Tryf.underlying31
  a30 := Tryf.isAgg31
  z30 := Tryf.sizeOf31
  v30 := Tryf.zeroValue31
  i30 := by kernel_rfl }
theorem Tryf.utf8_EncodeRune (b off len cap : Nat) (r : Int) (hlo : -2147483648 ≤ r) (hhi : r ≤ 2147483647) (w : World) (hl : (Lib.runeCells r).length ≤ len)
    (hc : ∀ j, j < (Lib.runeCells r).length → (w.cell? ⟨b, off + j, none⟩).isSome = true) (hf : ∀ j, j < (Lib.runeCells r).length → w.frozen? ⟨b, off + j, none⟩ = false) :
    Calls Tryf.prog 87 #[.slice (some ⟨b, off, none⟩) len cap, .int .i32 r] w fun e w' => e = .returned (.int .i64 (Lib.runeCells r).length) ∧ w' = w.setCells b off (Lib.runeCells r) :=
  Any7.utf8_EncodeRune Tryf.lay7_30 b off len cap r hlo hhi w hl hc hf
end Go.Proofs
