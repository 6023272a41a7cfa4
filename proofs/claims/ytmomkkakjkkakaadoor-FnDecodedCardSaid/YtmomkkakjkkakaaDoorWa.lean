/-
  WALKS of the reader's small functions: what each returns, for every argument; the world stays as it was.
-/
import Derived.Test.YtmomkkakjkkakaaDoorProg
import Derived.Test.YtmomkkakjkkakaaDoorPlain
import Derived.WalkKit
import Derived.WalkLawsBesides
import Derived.WalkSpells
import Derived.Outline
import Derived.Lib.Hide
set_option linter.unusedVariables false
set_option linter.unusedSimpArgs false
namespace Go.Proofs.YtmomkkakjkkakaaDoor
open Go.RowKit

theorem ret_bool {a b : Bool} (h : a = b) : Ending.returned (.bool a) = Ending.returned (.bool b) := by rw [h]
theorem ret_int {k : IntKind} {a b : Int} (h : a = b) : Ending.returned (.int k a) = Ending.returned (.int k b) := by rw [h]
theorem ret_str {a b : ByteArray} (h : a = b) : Ending.returned (.string a) = Ending.returned (.string b) := by rw [h]

theorem isNewline_any (c : Int) (w : World) : Calls Tryd.prog 34 #[.int .i64 c] w fun e w' => e = .returned (.bool (Pl.isNl c)) ∧ w = w' := by
  go_enter Tryd.func34, Tryd.ntmps34
  go_wp2
  all_goals go_ret
  all_goals exact ⟨ret_bool (by rw [Bool.eq_iff_iff]; simp [Pl.isNl]; try omega), rfl⟩

theorem isSpace_any (c : Int) (w : World) : Calls Tryd.prog 17 #[.int .i64 c] w fun e w' => e = .returned (.bool (Pl.isSp c)) ∧ w = w' := by
  go_enter Tryd.func17, Tryd.ntmps17
  go_wp2
  all_goals go_ret
  all_goals exact ⟨ret_bool (by rw [Bool.eq_iff_iff]; simp [Pl.isSp]; try omega), rfl⟩

theorem isDigit_any (c : Int) (w : World) : Calls Tryd.prog 39 #[.int .i64 c] w fun e w' => e = .returned (.bool (Pl.digB c)) ∧ w = w' := by
  go_enter Tryd.func39, Tryd.ntmps39
  go_wp2
  all_goals go_ret
  all_goals exact ⟨ret_bool (by rw [Bool.eq_iff_iff]; simp [Pl.digB]; try omega), rfl⟩

theorem Starts_any (c : Int) (w : World) : Calls Tryd.prog 38 #[.int .i64 c] w fun e w' => e = .returned (.bool (Pl.startsB c)) ∧ w = w' := by
  go_enter Tryd.func38, Tryd.ntmps38
  go_wp2
  all_goals go_ret
  all_goals exact ⟨ret_bool (by rw [Bool.eq_iff_iff]; simp [Pl.startsB]; try omega), rfl⟩

theorem Continues_any (c : Int) (w : World) : Calls Tryd.prog 20 #[.int .i64 c] w fun e w' => e = .returned (.bool (Pl.contsB c)) ∧ w = w' := by
  go_enter Tryd.func20, Tryd.ntmps20
  go_wp2
  all_goals go_ret
  all_goals exact ⟨ret_bool (by rw [Bool.eq_iff_iff]; simp [Pl.contsB]; try omega), rfl⟩

theorem isUnprintable_any (c : Int) (w : World) : Calls Tryd.prog 49 #[.int .i64 c] w fun e w' => e = .returned (.bool (Pl.unpB c)) ∧ w = w' := by
  go_enter Tryd.func49, Tryd.ntmps49
  go_wp2
  all_goals go_ret
  all_goals exact ⟨ret_bool (by rw [Bool.eq_iff_iff]; simp [Pl.unpB]; try omega), rfl⟩

theorem hex_any (c : Int) (w : World) : Calls Tryd.prog 47 #[.int .i64 c] w fun e w' => e = .returned (.int .i64 (Pl.hexv c)) ∧ w = w' := by
  go_enter Tryd.func47, Tryd.ntmps47
  go_wp2
  all_goals go_ret
  all_goals exact ⟨ret_int (by unfold Pl.hexv; (repeat' split) <;> omega), rfl⟩

theorem escapes_any (a b : Int) (w : World) : Calls Tryd.prog 21 #[.int .i64 a, .int .i64 b] w fun e w' => e = .returned (.bool (Pl.escB a b)) ∧ w = w' := by
  go_enter Tryd.func21, Tryd.ntmps21
  go_wp2_with (go_at_call 34; refine (isNewline_any _ _).mono ?_; rintro e w' ⟨rfl, rfl⟩)
  all_goals go_ret
  all_goals exact ⟨ret_bool (by rw [Bool.eq_iff_iff]; simp [Pl.escB]; try omega), rfl⟩

end Go.Proofs.YtmomkkakjkkakaaDoor
