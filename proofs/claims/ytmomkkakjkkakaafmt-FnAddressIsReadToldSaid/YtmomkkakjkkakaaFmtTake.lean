import Derived.Test.YtmomkkakjkkakaaFmtLx
set_option linter.unusedVariables false
set_option linter.unusedSimpArgs false
set_option maxRecDepth 100000
namespace Go.Proofs.YtmomkkakjkkakaaFmt
open Go.RowKit

theorem take_any {w : World} {B : Nat} {s : ByteArray} {r : List Nat} {cm : Value} {b : Bool} (h : Lx w B s r cm b) :
    Calls Tryf.prog 56 #[.pointer (some ⟨B, 0, none⟩)] w fun e w' => e = .returned (.int .i64 (Pl.pk r 0)) ∧ (Lx w' B s r.tail cm b ∧ w.grownBy w' (some B)) := by
  have c0 := h.blk.cell 0
  have c1 := h.blk.cell 1
  have f1 := h.blk.frozen 1
  simp only [List.getElem?_toArray, List.getElem?_cons_zero, List.getElem?_cons_succ] at c0 c1
  have hbd := adv_bd r
  have hpl := posN_le s.size r
  have hs := h.small
  have HH := Lib.hid h
  have HA := Lib.hid (posN_adv h.le)
  clear h
  go_enter Tryf.func56, Tryf.ntmps56
  go_wp2_with fail
  go_quiet ((go_at_call 35; exact Calls.quiet_of_same ((runeAt_lx _ HH.out.txt HH.out.ok hs).mono fun e w' h => ⟨h.1, h.2.symm⟩)))
  go_wp2_with fail
  go_ret
  refine ⟨rfl, HH.out.next ?_, ?_⟩
  · have hb := (HH.out.blk.drewN nq).put 1 (.int .i64 ((Pl.posN s.size r : Int) + adv r))
    rw [HA.out] at hb ⊢
    exact hb
  · exact gr_put (gr_drewN (gr_refl _ _) _) _ _
end Go.Proofs.YtmomkkakjkkakaaFmt
