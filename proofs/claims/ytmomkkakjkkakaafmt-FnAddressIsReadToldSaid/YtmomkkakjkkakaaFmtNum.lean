/-
  WALK of the reader's numeric.
-/
import Derived.Deep.DeepCutAuto
import Derived.Test.YtmomkkakjkkakaaFmtUrl
set_option linter.unusedVariables false
set_option linter.unusedSimpArgs false
set_option maxRecDepth 100000
namespace Go.Proofs.YtmomkkakjkkakaaFmt
open Go.RowKit


def sgnB (c : Int) : Bool := decide (c = 43 ∨ c = 45)
def eB (c : Int) : Bool := decide (c = 101 ∨ c = 69)
def dotB (a b : Int) : Bool := decide (a = 46) && Pl.digB b
def powB (a b : Int) : Bool := Pl.digB a || (sgnB a && Pl.digB b)
theorem expo_eq (r : List Nat) : Pl.expo r = (eB (Pl.pk r 0) && powB (Pl.pk r 1) (Pl.pk r 2)) := rfl
theorem tail_drop2 (r : List Nat) : r.tail.tail = r.drop 2 := by cases r with | nil => rfl | cons c t => cases t <;> rfl
theorem dig_range {c : Int} (h : Pl.digB c = true) : 48 ≤ c ∧ c ≤ 57 := by simpa [Pl.digB] using h

set_option maxHeartbeats 4000000 in
theorem numeric_from {W w : World} {B : Nat} {s : ByteArray} {r : List Nat} {cm : Value} {b : Bool} (h : Lx w B s r cm b) (g : W.grownBy w (some B)) :
    Calls Tryf.prog 63 #[.pointer (some ⟨B, 0, none⟩)] w fun e w' => e = .returned (tokV ((Pl.numericF s.size r).tok.kind : Int) 0 0 (Pl.numericF s.size r).tok.unit false (S [])) ∧
      (Lx w' B s (Pl.numericF s.size r).rest cm (b || (Pl.numericF s.size r).opn) ∧ W.grownBy w' (some B)) := by
  have hlt := h.blk.lt
  have hpr : (Pl.posN s.size r : Int) ≤ 1099511627776 := by have := posN_le s.size r; have := h.small; omega
  have hsmall := h.small
  go_enter Tryf.func63, Tryf.ntmps63
  go_upto_region 1 with fail
  obtain ⟨R, hR⟩ : ∃ R, R = w.heap.size := ⟨_, rfl⟩
  rw [← hR]
  obtain ⟨W1, hW1⟩ : ∃ W1, W1 = w.alloc (.cells #[.int .i64 0, .int .i64 0, .int .i64 0, .int .i64 0, .bool false, .string ⟨#[]⟩] 25) := ⟨_, rfl⟩
  rw [← hW1]
  have HB : Hid (Boxed W1 R B) := Lib.hid ⟨by rw [hW1, hR]; exact Blk.new _ _ _, by omega⟩
  have h1 : Lx W1 B s r cm b := by rw [hW1]; exact h.keep (World.grownBy_alloc w _ none) (by simp)
  have HG : Hid (W.grownBy W1 (some B) ∧ W.heap.size ≤ R) := Lib.hid ⟨by rw [hW1]; exact gr_alloc g _, by rw [hR]; exact g.size⟩
  clear hW1 hR h g hlt
  have g1 := gr_refl W1 (some B)
  have c1 := h1.cell1
  go_upto_region 3 with (first | (go_at_call 55; refine (peek_at (by assumption) _ (by omega) (by omega)).mono ?_; rintro e w' ⟨rfl, rfl⟩))
  clear c1
  go_cut [19] (fun t wx => t = .bool (sgnB (Pl.pk r 0)) ∧ Lx wx B s r cm b ∧ W1.grownBy wx (some B))
  case first =>
    by_cases e1 : Pl.pk r 0 = 43
    · have k1 : (Pl.pk r 0 == 43) = true := by simp [e1]
      have E := Lib.hid (show sgnB (Pl.pk r 0) = true by simp [sgnB, e1])
      clear e1
      go_wp2_with fail
      go_meet
      exact ⟨by rw [E.out], h1, g1⟩
    · have k1 : (Pl.pk r 0 == 43) = false := by simp [e1]
      by_cases e2 : Pl.pk r 0 = 45
      · have k2 : (Pl.pk r 0 == 45) = true := by simp [e2]
        have E := Lib.hid (show sgnB (Pl.pk r 0) = true by simp [sgnB, e2])
        clear e1 e2
        go_wp2_with fail
        go_meet
        exact ⟨by rw [E.out], h1, g1⟩
      · have k2 : (Pl.pk r 0 == 45) = false := by simp [e2]
        have E := Lib.hid (show sgnB (Pl.pk r 0) = false by simp [sgnB, e1, e2])
        clear e1 e2
        go_wp2_with fail
        go_meet
        exact ⟨by rw [E.out], h1, g1⟩
  case rest =>
  clear h1 g1
  obtain ⟨rfl, h, g⟩ := hcut
  go_upto_if 19 with (fail)
  go_cut [] (fun wx => Lx wx B s (Pl.num1 r) cm b ∧ W1.grownBy wx (some B))
  case first =>
    by_cases e : sgnB (Pl.pk r 0) = true
    · have E := Lib.hid (show Pl.num1 r = r.tail by unfold Pl.num1; rw [if_pos (by simpa [sgnB] using e)])
      rw [e]
      go_wp2_with (first | (go_at_call 56; refine (take_from (by assumption) (by assumption)).mono ?_; rintro e w' ⟨rfl, h', g'⟩))
      go_meet
      exact ⟨Lx.cast (by assumption) E.out.symm rfl, by assumption⟩
    · have E := Lib.hid (show Pl.num1 r = r by unfold Pl.num1; rw [if_neg (by simpa [sgnB] using e)])
      have e : sgnB (Pl.pk r 0) = false := by simpa using e
      rw [e]
      go_wp2_with (first | (go_at_call 56; refine (take_from (by assumption) (by assumption)).mono ?_; rintro e w' ⟨rfl, h', g'⟩))
      go_meet
      exact ⟨h.cast E.out.symm rfl, g⟩
  case rest =>
  clear h g
  obtain ⟨h, g⟩ := hcut
  go_upto_region 6 with (first | (go_at_call 84; refine (digits_from (by assumption) (by assumption)).mono ?_; rintro e w' ⟨rfl, h', g'⟩))
  have h2 : Lx _ B s (Pl.num2 r) cm b := h'
  have g2 := g'
  clear h' g' h g
  go_cut [31] (fun t wx => t = .bool (dotB (Pl.pk (Pl.num2 r) 0) (Pl.pk (Pl.num2 r) 1)) ∧ Lx wx B s (Pl.num2 r) cm b ∧ W1.grownBy wx (some B))
  case first =>
    by_cases e1 : Pl.pk (Pl.num2 r) 0 = 46
    · have k1 : (Pl.pk (Pl.num2 r) 0 == 46) = true := by simp [e1]
      have E := Lib.hid (show dotB (Pl.pk (Pl.num2 r) 0) (Pl.pk (Pl.num2 r) 1) = Pl.digB (Pl.pk (Pl.num2 r) 1) by simp [dotB, e1])
      clear e1
      go_wp2_with (first | (go_at_call 55; refine (peek_at (by assumption) _ (by omega) (by omega)).mono ?_; rintro e w' ⟨rfl, rfl⟩) | (go_at_call 83; refine (isDigit_any _ _).mono ?_; rintro e w' ⟨rfl, rfl⟩))
      go_meet
      exact ⟨by rw [E.out], h2, g2⟩
    · have k1 : (Pl.pk (Pl.num2 r) 0 == 46) = false := by simp [e1]
      have E := Lib.hid (show dotB (Pl.pk (Pl.num2 r) 0) (Pl.pk (Pl.num2 r) 1) = false by simp [dotB, e1])
      clear e1
      go_wp2_with (first | (go_at_call 55; refine (peek_at (by assumption) _ (by omega) (by omega)).mono ?_; rintro e w' ⟨rfl, rfl⟩) | (go_at_call 83; refine (isDigit_any _ _).mono ?_; rintro e w' ⟨rfl, rfl⟩))
      go_meet
      exact ⟨by rw [E.out], h2, g2⟩
  case rest =>
  clear h2 g2
  obtain ⟨rfl, h, g⟩ := hcut
  go_upto_if 31 with (fail)
  go_cut [] (fun wx => Lx wx B s (Pl.num3 r) cm (b || Pl.numO r) ∧ W1.grownBy wx (some B))
  case first =>
    by_cases e : dotB (Pl.pk (Pl.num2 r) 0) (Pl.pk (Pl.num2 r) 1) = true
    · have E := Lib.hid (show Pl.num3 r = Pl.dgF (Pl.num2 r).tail by unfold Pl.num3; rw [if_pos (by simpa [dotB] using e)])
      have EO := Lib.hid (show Pl.numO r = false by
        unfold Pl.numO; simp only [dotB, Bool.and_eq_true, decide_eq_true_eq] at e; simp [e.2])
      rw [e]
      go_wp2_with (first | (go_at_call 56; refine (take_from (by assumption) (by assumption)).mono ?_; rintro e w' ⟨rfl, h', g'⟩) | (go_at_call 84; refine (digits_from (by assumption) (by assumption)).mono ?_; rintro e w' ⟨rfl, h', g'⟩))
      go_meet
      exact ⟨Lx.cast (by assumption) E.out.symm (by rw [EO.out]; simp), by assumption⟩
    · have E := Lib.hid (show Pl.num3 r = Pl.num2 r by unfold Pl.num3; rw [if_neg (by simpa [dotB] using e)])
      have e : dotB (Pl.pk (Pl.num2 r) 0) (Pl.pk (Pl.num2 r) 1) = false := by simpa using e
      by_cases e1 : Pl.pk (Pl.num2 r) 0 = 46
      · have k1 : (Pl.pk (Pl.num2 r) 0 == 46) = true := by simp [e1]
        have EO := Lib.hid (show Pl.numO r = true by
          unfold Pl.numO; simp only [dotB, e1, decide_true, Bool.true_and] at e; simp [e1, e])
        have c3 := h.cell3
        have f3 := h.free 3
        clear e1
        rw [e]
        go_wp2_with (first | (go_at_call 55; refine (peek_at (by assumption) _ (by omega) (by omega)).mono ?_; rintro e w' ⟨rfl, rfl⟩))
        go_meet
        exact ⟨h.opened.cast E.out.symm (by rw [EO.out]; simp), gr_put g _ _⟩
      · have k1 : (Pl.pk (Pl.num2 r) 0 == 46) = false := by simp [e1]
        have EO := Lib.hid (show Pl.numO r = false by unfold Pl.numO; simp [e1])
        clear e1
        rw [e]
        go_wp2_with (first | (go_at_call 55; refine (peek_at (by assumption) _ (by omega) (by omega)).mono ?_; rintro e w' ⟨rfl, rfl⟩))
        go_meet
        exact ⟨h.cast E.out.symm (by rw [EO.out]; simp), g⟩
  case rest =>
  clear h g
  obtain ⟨h, g⟩ := hcut
  go_upto_region 12 with (first | (go_at_call 55; refine (peek_at (by assumption) _ (by omega) (by omega)).mono ?_; rintro e w' ⟨rfl, rfl⟩))
  go_cut [49] (fun t wx => t = .bool (eB (Pl.pk (Pl.num3 r) 0)) ∧ Lx wx B s (Pl.num3 r) cm (b || Pl.numO r) ∧ W1.grownBy wx (some B))
  case first =>
    by_cases e1 : Pl.pk (Pl.num3 r) 0 = 101
    · have k1 : (Pl.pk (Pl.num3 r) 0 == 101) = true := by simp [e1]
      have E := Lib.hid (show eB (Pl.pk (Pl.num3 r) 0) = true by simp [eB, e1])
      clear e1
      go_wp2_with fail
      go_meet
      exact ⟨by rw [E.out], h, g⟩
    · have k1 : (Pl.pk (Pl.num3 r) 0 == 101) = false := by simp [e1]
      by_cases e2 : Pl.pk (Pl.num3 r) 0 = 69
      · have k2 : (Pl.pk (Pl.num3 r) 0 == 69) = true := by simp [e2]
        have E := Lib.hid (show eB (Pl.pk (Pl.num3 r) 0) = true by simp [eB, e2])
        clear e1 e2
        go_wp2_with fail
        go_meet
        exact ⟨by rw [E.out], h, g⟩
      · have k2 : (Pl.pk (Pl.num3 r) 0 == 69) = false := by simp [e2]
        have E := Lib.hid (show eB (Pl.pk (Pl.num3 r) 0) = false by simp [eB, e1, e2])
        clear e1 e2
        go_wp2_with fail
        go_meet
        exact ⟨by rw [E.out], h, g⟩
  case rest =>
  clear h g
  obtain ⟨rfl, h, g⟩ := hcut
  go_upto_if 49 with (fail)
  go_cut [] (fun wx => Lx wx B s (Pl.num4 r) cm (b || Pl.numO r) ∧ W1.grownBy wx (some B))
  case first =>
    by_cases e : eB (Pl.pk (Pl.num3 r) 0) = true
    · rw [e]
      go_upto_region 14 with (first | (go_at_call 55; refine (peek_at (by assumption) _ (by omega) (by omega)).mono ?_; rintro e w' ⟨rfl, rfl⟩))
      go_cut [66] (fun t wx => t = .bool (powB (Pl.pk (Pl.num3 r) 1) (Pl.pk (Pl.num3 r) 2)) ∧ Lx wx B s (Pl.num3 r) cm (b || Pl.numO r) ∧ W1.grownBy wx (some B))
      case first =>
        by_cases d1 : Pl.digB (Pl.pk (Pl.num3 r) 1) = true
        · have E := Lib.hid (show powB (Pl.pk (Pl.num3 r) 1) (Pl.pk (Pl.num3 r) 2) = true by simp [powB, d1])
          go_wp2_with (first | (go_at_call 55; refine (peek_at (by assumption) _ (by omega) (by omega)).mono ?_; rintro e w' ⟨rfl, rfl⟩) | (go_at_call 83; refine (isDigit_any _ _).mono ?_; rintro e w' ⟨rfl, rfl⟩))
          go_meet
          exact ⟨by rw [E.out], h, g⟩
        · have d1 : Pl.digB (Pl.pk (Pl.num3 r) 1) = false := by simpa using d1
          by_cases e1 : Pl.pk (Pl.num3 r) 1 = 43
          · have k1 : (Pl.pk (Pl.num3 r) 1 == 43) = true := by simp [e1]
            have E := Lib.hid (show powB (Pl.pk (Pl.num3 r) 1) (Pl.pk (Pl.num3 r) 2) = Pl.digB (Pl.pk (Pl.num3 r) 2) by simp [powB, d1, sgnB, e1, Pl.digB])
            clear e1
            go_wp2_with (first | (go_at_call 55; refine (peek_at (by assumption) _ (by omega) (by omega)).mono ?_; rintro e w' ⟨rfl, rfl⟩) | (go_at_call 83; refine (isDigit_any _ _).mono ?_; rintro e w' ⟨rfl, rfl⟩))
            go_meet
            exact ⟨by rw [E.out], h, g⟩
          · have k1 : (Pl.pk (Pl.num3 r) 1 == 43) = false := by simp [e1]
            by_cases e2 : Pl.pk (Pl.num3 r) 1 = 45
            · have k2 : (Pl.pk (Pl.num3 r) 1 == 45) = true := by simp [e2]
              have E := Lib.hid (show powB (Pl.pk (Pl.num3 r) 1) (Pl.pk (Pl.num3 r) 2) = Pl.digB (Pl.pk (Pl.num3 r) 2) by simp [powB, d1, sgnB, e2, Pl.digB])
              clear e1 e2
              go_wp2_with (first | (go_at_call 55; refine (peek_at (by assumption) _ (by omega) (by omega)).mono ?_; rintro e w' ⟨rfl, rfl⟩) | (go_at_call 83; refine (isDigit_any _ _).mono ?_; rintro e w' ⟨rfl, rfl⟩))
              go_meet
              exact ⟨by rw [E.out], h, g⟩
            · have k2 : (Pl.pk (Pl.num3 r) 1 == 45) = false := by simp [e2]
              have E := Lib.hid (show powB (Pl.pk (Pl.num3 r) 1) (Pl.pk (Pl.num3 r) 2) = false by simp [powB, d1, sgnB, e1, e2])
              clear e1 e2
              go_wp2_with (first | (go_at_call 55; refine (peek_at (by assumption) _ (by omega) (by omega)).mono ?_; rintro e w' ⟨rfl, rfl⟩) | (go_at_call 83; refine (isDigit_any _ _).mono ?_; rintro e w' ⟨rfl, rfl⟩))
              go_meet
              exact ⟨by rw [E.out], h, g⟩
      case rest =>
        clear h g
        obtain ⟨rfl, h, g⟩ := hcut
        by_cases d : powB (Pl.pk (Pl.num3 r) 1) (Pl.pk (Pl.num3 r) 2) = true
        · have E := Lib.hid (show Pl.num4 r = Pl.dgF (Pl.num3 r).tail.tail by unfold Pl.num4; rw [expo_eq, e, d]; simp only [Bool.and_self, if_true]; rw [tail_drop2])
          rw [d]
          go_wp2_with (first | (go_at_call 56; refine (take_from (by assumption) (by assumption)).mono ?_; rintro e w' ⟨rfl, h', g'⟩) | (go_at_call 84; refine (digits_from (by assumption) (by assumption)).mono ?_; rintro e w' ⟨rfl, h', g'⟩))
          go_meet
          exact ⟨Lx.cast (by assumption) E.out.symm rfl, by assumption⟩
        · have d : powB (Pl.pk (Pl.num3 r) 1) (Pl.pk (Pl.num3 r) 2) = false := by simpa using d
          have E := Lib.hid (show Pl.num4 r = Pl.num3 r by unfold Pl.num4; rw [expo_eq, e, d]; simp)
          rw [d]
          go_wp2_with (first | (go_at_call 56; refine (take_from (by assumption) (by assumption)).mono ?_; rintro e w' ⟨rfl, h', g'⟩) | (go_at_call 84; refine (digits_from (by assumption) (by assumption)).mono ?_; rintro e w' ⟨rfl, h', g'⟩))
          go_meet
          exact ⟨h.cast E.out.symm rfl, g⟩
    · have e : eB (Pl.pk (Pl.num3 r) 0) = false := by simpa using e
      have E := Lib.hid (show Pl.num4 r = Pl.num3 r by unfold Pl.num4; rw [expo_eq, e]; simp)
      rw [e]
      go_wp2_with fail
      go_meet
      exact ⟨h.cast E.out.symm rfl, g⟩
  case rest =>
  clear h g
  obtain ⟨h, g⟩ := hcut
  by_cases e : Pl.idB (Pl.pk (Pl.num4 r) 0) (Pl.pk (Pl.num4 r) 1) (Pl.pk (Pl.num4 r) 2) = true
  · have E := Lib.hid (show Pl.numericF s.size r = _ by unfold Pl.numericF; rw [if_pos e])
    have c1 := h.cell1
    have hp4 : (Pl.posN s.size (Pl.num4 r) : Int) ≤ 1099511627776 := by have := posN_le s.size (Pl.num4 r); omega
    go_wp2_with (first | (go_at_call 55; refine (peek_at (by assumption) _ (by omega) (by omega)).mono ?_; rintro e w' ⟨rfl, rfl⟩) | (go_at_call 61; refine (identifies_any _ _ _ _).mono ?_; rintro e w' ⟨rfl, rfl⟩) | (go_at_call 48; refine (name_from (by assumption) (by assumption)).mono ?_; rintro e w' ⟨rfl, h', g'⟩; have bx := HB.out.at_ g'))
    refine bodyPost_ret (v := tokV 26 0 0 ((Pl.posN s.size (Pl.num4 r) : Int) - (Pl.posN s.size r : Int)) false (S [])) (by simp [results, Tryf.results63, go_sem, tokV, S, bx]) rfl ⟨by rw [E.out]; rfl, Lx.cast (Lx.tok (by assumption) HB.out.ne) (by rw [E.out]) (by rw [E.out]; simp [Bool.or_assoc]), gr_tok (gr_trans HG.out.1 g') HG.out.2⟩
  · have e : Pl.idB (Pl.pk (Pl.num4 r) 0) (Pl.pk (Pl.num4 r) 1) (Pl.pk (Pl.num4 r) 2) = false := by simpa using e
    by_cases e2 : Pl.pk (Pl.num4 r) 0 = 37
    · have k2 : (Pl.pk (Pl.num4 r) 0 == 37) = true := by simp [e2]
      have E := Lib.hid (show Pl.numericF s.size r = _ by unfold Pl.numericF; rw [if_neg (by simp [e]), if_pos e2])
      clear e2
      go_wp2_with (first | (go_at_call 55; refine (peek_at (by assumption) _ (by omega) (by omega)).mono ?_; rintro e w' ⟨rfl, rfl⟩) | (go_at_call 61; refine (identifies_any _ _ _ _).mono ?_; rintro e w' ⟨rfl, rfl⟩) | (go_at_call 56; refine (take_from (by assumption) (by assumption)).mono ?_; rintro e w' ⟨rfl, h', g'⟩; have bx := HB.out.at_ g'))
      refine bodyPost_ret (v := tokV 34 0 0 0 false (S [])) (by simp [results, Tryf.results63, go_sem, tokV, S, bx]) rfl ⟨by rw [E.out]; rfl, Lx.cast (Lx.tok (by assumption) HB.out.ne) (by rw [E.out]) (by rw [E.out]), gr_tok (gr_trans HG.out.1 g') HG.out.2⟩
    · have k2 : (Pl.pk (Pl.num4 r) 0 == 37) = false := by simp [e2]
      have E := Lib.hid (show Pl.numericF s.size r = _ by unfold Pl.numericF; rw [if_neg (by simp [e]), if_neg e2])
      clear e2
      have bx := HB.out.at_ g
      go_wp2_with (first | (go_at_call 55; refine (peek_at (by assumption) _ (by omega) (by omega)).mono ?_; rintro e w' ⟨rfl, rfl⟩) | (go_at_call 61; refine (identifies_any _ _ _ _).mono ?_; rintro e w' ⟨rfl, rfl⟩))
      refine bodyPost_ret (v := tokV 30 0 0 0 false (S [])) (by simp [results, Tryf.results63, go_sem, tokV, S, bx]) rfl ⟨by rw [E.out]; rfl, Lx.cast (Lx.tok h HB.out.ne) (by rw [E.out]) (by rw [E.out]), gr_tok (gr_trans HG.out.1 g) HG.out.2⟩

end Go.Proofs.YtmomkkakjkkakaaFmt
