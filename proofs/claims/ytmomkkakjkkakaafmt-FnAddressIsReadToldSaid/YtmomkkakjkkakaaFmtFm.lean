/-
  THE CLOSED FACTS FOR A WALK OVER fmt.Sprintf at this program: the format of a backslash and a hexadecimal number, one operand of type int32.
-/
import Derived.Test.YtmomkkakjkkakaaFmtProg
import Derived.Stop.CallBack
import Derived.Stop.IfaceNil
import Derived.Stop.FmtTextBases
import Derived.Stop.FmtTextVerbs
import Derived.Stop.JoinedTold
import GoSem.ClaimData
set_option linter.unusedVariables false
set_option linter.unusedSimpArgs false
set_option maxRecDepth 100000
namespace Go.Proofs
open Go.Extern.Stop Go.Stop Go.Extern

@[go_sem] theorem Tryf.callSp (args : Array Value) (w : World) : (callFunc 88 args).run Tryf.prog w = ((FmtStop.sprintf #[9, 184] #[9] args).run Tryf.prog w).andThen fun v w' => .ok (.value v) w' :=
  run_callFunc_extern Tryf.func88 (by kernel_rfl) (by kernel_rfl) (by kernel_rfl) (by kernel_rfl) args w
@[go_sem] theorem Tryf.guard (name : String) (w : World) : (FmtStop.guard name).run Tryf.prog w = .ok () w := by kernel_rfl
@[go_sem] theorem Tryf.fmt2 : FmtStop.printed? ⟨#[92, 37, 120]⟩ 1 = some [(0, 120, false)] := by kernel_rfl
@[go_sem] theorem Tryf.fmt2r (w : World) : (FmtDoors.printed ⟨#[92, 37, 120]⟩ 1).run Tryf.prog w = .ok [(0, 120, false)] w := by kernel_rfl
@[go_sem] theorem Tryf.fmt3 : FmtStop.printed? ⟨#[92, 37, 120]⟩ 0 = some [] := by kernel_rfl
@[go_sem] theorem Tryf.fmt3r (w : World) : (FmtDoors.printed ⟨#[92, 37, 120]⟩ 0).run Tryf.prog w = .ok [] w := by kernel_rfl
theorem Tryf.nameRune : Tryf.prog.typeName? 3 21 = some "int32" := by kernel_rfl
def Tryf.shapeRune : List UInt8 := [4, 5, 0, 0, 0, 0, 0, 0, 0, 105, 110, 116, 51, 50]
@[go_sem] theorem Tryf.opRune (name : String) (x : Int) (w : World) : (FmtStop.operand name false 120 false (.iface 21 (.int .i32 x))).run Tryf.prog w = .ok (Tryf.shapeRune, Go.Extern.Stop.digits 8 (x % 2 ^ 64).toNat) w := by kernel_rfl
@[go_sem] theorem Tryf.strictRune (name : String) (x : Int) (w : World) : (FmtStop.strict name (.iface 21 (.int .i32 x))).run Tryf.prog w = .ok (Tryf.shapeRune, Go.Extern.Stop.digits 8 (x % 2 ^ 64).toNat) w := by kernel_rfl

/-- what fmt is asked -/
def Tryf.asked (c : Int) : List (List UInt8) := [[92, 37, 120], Tryf.shapeRune, Go.Extern.Stop.digits 8 (c % 18446744073709551616).toNat]
theorem Tryf.hexParse : (FmtText.parse [92, 37, 120]).map FmtText.glue = some [.lit [92], .verb {} 120] := by rfl
theorem Tryf.hexText (c : Int) (hw : (Lit.int .i32 c).wf = true) : FmtText.text "fmt.Sprintf" (Tryf.asked c) = some ([92] ++ FmtText.inBase 16 false c) := by
  rw [Tryf.asked, FmtText.text_sprintf_glued Tryf.hexParse (FmtText.operands_cons (FmtText.operand_int_at (sh := Tryf.shapeRune) (k := .i32) rfl rfl c hw) FmtText.operands_nil)]
  simp [FmtText.render, FmtText.printArg_x _ _ hw]
end Go.Proofs
