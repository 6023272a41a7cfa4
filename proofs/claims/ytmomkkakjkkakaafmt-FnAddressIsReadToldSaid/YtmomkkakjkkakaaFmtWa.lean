/-
  WALKS of the reader's small functions: what each returns, for every argument; the world stays as it was.
-/
import Derived.Test.YtmomkkakjkkakaaFmtProg
import Derived.Test.YtmomkkakjkkakaaFmtPlain
import Derived.WalkKit
import Derived.WalkLawsBesides
import Derived.WalkSpells
import Derived.Outline
import Derived.Lib.Hide
set_option linter.unusedVariables false
set_option linter.unusedSimpArgs false
namespace Go.Proofs.YtmomkkakjkkakaaFmt
open Go.RowKit

theorem ret_bool {a b : Bool} (h : a = b) : Ending.returned (.bool a) = Ending.returned (.bool b) := by rw [h]
theorem ret_int {k : IntKind} {a b : Int} (h : a = b) : Ending.returned (.int k a) = Ending.returned (.int k b) := by rw [h]
theorem ret_str {a b : ByteArray} (h : a = b) : Ending.returned (.string a) = Ending.returned (.string b) := by rw [h]

theorem isNewline_any (c : Int) (w : World) : Calls Tryf.prog 52 #[.int .i64 c] w fun e w' => e = .returned (.bool (Pl.isNl c)) ∧ w = w' := by
  go_enter Tryf.func52, Tryf.ntmps52
  go_wp2
  all_goals go_ret
  all_goals exact ⟨ret_bool (by rw [Bool.eq_iff_iff]; simp [Pl.isNl]; try omega), rfl⟩

theorem isSpace_any (c : Int) (w : World) : Calls Tryf.prog 40 #[.int .i64 c] w fun e w' => e = .returned (.bool (Pl.isSp c)) ∧ w = w' := by
  go_enter Tryf.func40, Tryf.ntmps40
  go_wp2
  all_goals go_ret
  all_goals exact ⟨ret_bool (by rw [Bool.eq_iff_iff]; simp [Pl.isSp]; try omega), rfl⟩

theorem isDigit_any (c : Int) (w : World) : Calls Tryf.prog 83 #[.int .i64 c] w fun e w' => e = .returned (.bool (Pl.digB c)) ∧ w = w' := by
  go_enter Tryf.func83, Tryf.ntmps83
  go_wp2
  all_goals go_ret
  all_goals exact ⟨ret_bool (by rw [Bool.eq_iff_iff]; simp [Pl.digB]; try omega), rfl⟩

theorem Starts_any (c : Int) (w : World) : Calls Tryf.prog 82 #[.int .i64 c] w fun e w' => e = .returned (.bool (Pl.startsB c)) ∧ w = w' := by
  go_enter Tryf.func82, Tryf.ntmps82
  go_wp2
  all_goals go_ret
  all_goals exact ⟨ret_bool (by rw [Bool.eq_iff_iff]; simp [Pl.startsB]; try omega), rfl⟩

theorem Continues_any (c : Int) (w : World) : Calls Tryf.prog 59 #[.int .i64 c] w fun e w' => e = .returned (.bool (Pl.contsB c)) ∧ w = w' := by
  go_enter Tryf.func59, Tryf.ntmps59
  go_wp2
  all_goals go_ret
  all_goals exact ⟨ret_bool (by rw [Bool.eq_iff_iff]; simp [Pl.contsB]; try omega), rfl⟩

theorem isUnprintable_any (c : Int) (w : World) : Calls Tryf.prog 41 #[.int .i64 c] w fun e w' => e = .returned (.bool (Pl.unpB c)) ∧ w = w' := by
  go_enter Tryf.func41, Tryf.ntmps41
  go_wp2
  all_goals go_ret
  all_goals exact ⟨ret_bool (by rw [Bool.eq_iff_iff]; simp [Pl.unpB]; try omega), rfl⟩

theorem hex_any (c : Int) (w : World) : Calls Tryf.prog 89 #[.int .i64 c] w fun e w' => e = .returned (.int .i64 (Pl.hexv c)) ∧ w = w' := by
  go_enter Tryf.func89, Tryf.ntmps89
  go_wp2
  all_goals go_ret
  all_goals exact ⟨ret_int (by unfold Pl.hexv; (repeat' split) <;> omega), rfl⟩

theorem escapes_any (a b : Int) (w : World) : Calls Tryf.prog 60 #[.int .i64 a, .int .i64 b] w fun e w' => e = .returned (.bool (Pl.escB a b)) ∧ w = w' := by
  go_enter Tryf.func60, Tryf.ntmps60
  go_wp2_with (go_at_call 52; refine (isNewline_any _ _).mono ?_; rintro e w' ⟨rfl, rfl⟩)
  all_goals go_ret
  all_goals exact ⟨ret_bool (by rw [Bool.eq_iff_iff]; simp [Pl.escB]; try omega), rfl⟩

end Go.Proofs.YtmomkkakjkkakaaFmt
