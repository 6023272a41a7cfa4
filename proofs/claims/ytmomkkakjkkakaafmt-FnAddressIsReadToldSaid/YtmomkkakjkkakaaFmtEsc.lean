/-
  WALK of the reader's escape.
-/
import Derived.Test.YtmomkkakjkkakaaFmtLb
set_option linter.unusedVariables false
set_option linter.unusedSimpArgs false
set_option maxRecDepth 100000
namespace Go.Proofs.YtmomkkakjkkakaaFmt
open Go.RowKit

def bd16 : Nat → Int
  | 0 => 1
  | n + 1 => bd16 n * 16
theorem bd16_le : ∀ j, j ≤ 6 → 1 ≤ bd16 j ∧ bd16 j ≤ 16777216 := by decide
theorem hexv_bd (c : Int) : -1 ≤ Pl.hexv c ∧ Pl.hexv c ≤ 15 := by unfold Pl.hexv; (repeat' split) <;> omega
theorem hexN_go {k : Nat} {v : Int} {r : List Nat} (h : 0 ≤ Pl.hexv (Pl.pk r 0)) : Pl.hexN (k + 1) v r = Pl.hexN k (v * 16 + Pl.hexv (Pl.pk r 0)) r.tail := by
  cases r with
  | nil => simp [Pl.pk, Pl.hexv] at h
  | cons c t => rw [Pl.pk_cons] at h ⊢; simp only [Pl.hexN, List.tail_cons]; rw [if_pos h]
theorem hexN_stop {k : Nat} {v : Int} {r : List Nat} (h : Pl.hexv (Pl.pk r 0) < 0) : Pl.hexN k v r = (v, r) := by
  cases k with
  | zero => simp [Pl.hexN]
  | succ k =>
    cases r with
    | nil => simp [Pl.hexN]
    | cons c t => rw [Pl.pk_cons] at h; simp only [Pl.hexN]; rw [if_neg (by omega)]
theorem hexv_ne_nil {r : List Nat} (h : 0 ≤ Pl.hexv (Pl.pk r 0)) : r ≠ [] := by rintro rfl; simp [Pl.pk, Pl.hexv] at h
theorem escF_end : Pl.escF [] = (65533, [], true) := by decide
theorem escF_raw {r : List Nat} (h0 : r ≠ []) (h : Pl.hexv (Pl.pk r 0) < 0) : Pl.escF r = ((Pl.pk r 0).toNat, r.tail, false) := by
  cases r with
  | nil => exact absurd rfl h0
  | cons c t => unfold Pl.escF; rw [if_pos h]; simp [Pl.pk_cons]
theorem escF_nl {r : List Nat} (h : 0 ≤ Pl.hexv (Pl.pk r 0)) (h1 : Pl.isNl (Pl.pk (Pl.hexN 6 0 r).2 0) = true) : Pl.escF r = (Pl.fixv (Pl.hexN 6 0 r).1, Pl.nlF (Pl.hexN 6 0 r).2, true) := by
  unfold Pl.escF; rw [if_neg (by omega), if_pos h1]
theorem escF_sp {r : List Nat} (h : 0 ≤ Pl.hexv (Pl.pk r 0)) (h1 : Pl.isNl (Pl.pk (Pl.hexN 6 0 r).2 0) = false) (h2 : Pl.isSp (Pl.pk (Pl.hexN 6 0 r).2 0) = true) : Pl.escF r = (Pl.fixv (Pl.hexN 6 0 r).1, (Pl.hexN 6 0 r).2.tail, false) := by
  unfold Pl.escF; rw [if_neg (by omega), if_neg (by simp [h1]), if_pos h2]
theorem escF_no {r : List Nat} (h : 0 ≤ Pl.hexv (Pl.pk r 0)) (h1 : Pl.isNl (Pl.pk (Pl.hexN 6 0 r).2 0) = false) (h2 : Pl.isSp (Pl.pk (Pl.hexN 6 0 r).2 0) = false) : Pl.escF r = (Pl.fixv (Pl.hexN 6 0 r).1, (Pl.hexN 6 0 r).2, false) := by
  unfold Pl.escF; rw [if_neg (by omega), if_neg (by simp [h1]), if_neg (by simp [h2])]

theorem escape_raw {W w : World} {B : Nat} {s : ByteArray} {r : List Nat} {cm : Value} {b : Bool} (h : Lx w B s r cm b) (g : W.grownBy w (some B)) (hx : Pl.hexv (Pl.pk r 0) < 0) :
    Calls Tryf.prog 71 #[.pointer (some ⟨B, 0, none⟩)] w fun e w' => e = .returned (.int .i64 (Pl.escF r).1) ∧ (Lx w' B s (Pl.escF r).2.1 cm (b || (Pl.escF r).2.2) ∧ W.grownBy w' (some B)) := by
  by_cases h0 : Pl.pk r 0 = -1
  · obtain rfl := Pl.pk_end h0
    have k0 : (Pl.pk [] 0 == -1) = true := by decide
    have E := Lib.hid escF_end
    clear h0
    go_enter Tryf.func71, Tryf.ntmps71
    go_wp2_with (first
    | (go_at_call 55; refine (peek_at (by assumption) _ (by omega) (by omega)).mono ?_; rintro e w' ⟨rfl, rfl⟩)
    | (go_at_call 56; refine (take_from (by assumption) (by assumption)).mono ?_; rintro e w1 ⟨rfl, h1, g1⟩; have c3 := h1.cell3; have f3 := h1.free 3)
    | (go_at_call 89; refine (hex_any _ _).mono ?_; rintro e w' ⟨rfl, rfl⟩))
    go_ret
    exact ⟨ret_int (by rw [E.out]; rfl), h1.opened.cast (by rw [E.out]; rfl) (by rw [E.out]; simp), gr_put g1 _ _⟩
  · have k0 : (Pl.pk r 0 == -1) = false := by simp [h0]
    have E := Lib.hid (escF_raw (Pl.pk_ne_nil h0) hx)
    have hge := Pl.pk_ge r 0
    have hp : 0 ≤ Pl.pk r 0 := by omega
    clear h0 hge
    go_enter Tryf.func71, Tryf.ntmps71
    go_wp2_with (first
    | (go_at_call 55; refine (peek_at (by assumption) _ (by omega) (by omega)).mono ?_; rintro e w' ⟨rfl, rfl⟩)
    | (go_at_call 56; refine (take_from (by assumption) (by assumption)).mono ?_; rintro e w' ⟨rfl, h', g'⟩)
    | (go_at_call 89; refine (hex_any _ _).mono ?_; rintro e w' ⟨rfl, rfl⟩))
    go_ret
    exact ⟨ret_int (by rw [E.out]; simp only []; omega), Lx.cast (by assumption) (by rw [E.out]) (by rw [E.out]; simp), by assumption⟩

theorem fix_pos {v : Int} (h : v = 0 ∨ 1114111 < v ∨ (55296 ≤ v ∧ v < 57344)) : (Pl.fixv v : Int) = 65533 := by unfold Pl.fixv; rw [if_pos h]; rfl
theorem fix_neg {v : Int} (h0 : 0 ≤ v) (h : ¬ (v = 0 ∨ 1114111 < v ∨ (55296 ≤ v ∧ v < 57344))) : (Pl.fixv v : Int) = v := by unfold Pl.fixv; rw [if_neg h]; omega

set_option maxHeartbeats 2000000 in
theorem escape_hex {W w : World} {B : Nat} {s : ByteArray} {r : List Nat} {cm : Value} {b : Bool} (h : Lx w B s r cm b) (g : W.grownBy w (some B)) (hx : 0 ≤ Pl.hexv (Pl.pk r 0)) :
    Calls Tryf.prog 71 #[.pointer (some ⟨B, 0, none⟩)] w fun e w' => e = .returned (.int .i64 (Pl.escF r).1) ∧ (Lx w' B s (Pl.escF r).2.1 cm (b || (Pl.escF r).2.2) ∧ W.grownBy w' (some B)) := by
  have HX := Lib.hid hx
  have hxd : decide (Pl.hexv (Pl.pk r 0) < 0) = false := by simp; omega
  go_enter Tryf.func71, Tryf.ntmps71
  go_wp2_with (first
    | (go_at_call 55; refine (peek_at (by assumption) _ (by omega) (by omega)).mono ?_; rintro e w' ⟨rfl, rfl⟩)
    | (go_at_call 89; refine (hex_any _ _).mono ?_; rintro e w' ⟨rfl, rfl⟩))
  go_loopg [4, 5] 6 (fun k v i wr => ∃ (j : Nat) (r' : List Nat) (u : Int), k = 6 - j ∧ j ≤ 6 ∧ i = .int .i64 j ∧ v = .int .i64 u ∧ 0 ≤ u ∧ u < bd16 j ∧ Lx wr B s r' cm b ∧ W.grownBy wr (some B) ∧ Hid (Pl.hexN 6 0 r = Pl.hexN (6 - j) u r'))
  case atStart => exact ⟨0, r, 0, rfl, by omega, rfl, rfl, by omega, by decide, h, g, Lib.hid rfl⟩
  case round =>
    clear h g hx hxd
    obtain ⟨j, r', u, rfl, hj, rfl, rfl, hu0, hu1, h, g, HE⟩ := hrel
    obtain ⟨hb1, hb2⟩ := bd16_le j hj
    have hxb := hexv_bd (Pl.pk r' 0)
    by_cases hgo : j < 6 ∧ 0 ≤ Pl.hexv (Pl.pk r' 0)
    · obtain ⟨hj6, hx'⟩ := hgo
      have hj6' : (j : Int) < 6 := by omega
      have hbs : bd16 (j + 1) = bd16 j * 16 := rfl
      have HB := Lib.hid hbs
      have HX' := Lib.hid hx'
      clear hbs
      have hxd' : decide (0 ≤ Pl.hexv (Pl.pk r' 0)) = true := by simp; omega
      go_wp2_with (first
    | (go_at_call 55; refine (peek_at (by assumption) _ (by omega) (by omega)).mono ?_; rintro e w' ⟨rfl, rfl⟩)
    | (go_at_call 56; refine (take_from (by assumption) (by assumption)).mono ?_; rintro e w' ⟨rfl, h', g'⟩)
    | (go_at_call 89; refine (hex_any _ _).mono ?_; rintro e w' ⟨rfl, rfl⟩))
      go_roundg (6 - (j + 1))
      case measure => omega
      case rel => exact ⟨j + 1, r'.tail, u * 16 + Pl.hexv (Pl.pk r' 0), rfl, by omega, by go_num, rfl, by omega, by have := HB.out; omega, by assumption, by assumption,
        Lib.hid (by rw [HE.out, show 6 - j = (6 - (j + 1)) + 1 by omega, hexN_go HX'.out])⟩
    · have E6 := Lib.hid (show Pl.hexN 6 0 r = (u, r') by
        rw [HE.out]
        rcases Nat.lt_or_ge j 6 with h6 | h6
        · exact hexN_stop (by omega)
        · obtain rfl : j = 6 := by omega
          rfl)
      clear HE
      have hsplit : (j : Int) < 6 ∧ Pl.hexv (Pl.pk r' 0) < 0 ∨ j = 6 := by omega
      have HFP := fun hh => Lib.hid (fix_pos (v := u) hh)
      have HFN := fun hh => Lib.hid (fix_neg (v := u) hu0 hh)
      have HFP' := Lib.hid HFP
      have HFN' := Lib.hid HFN
      clear HFP HFN hgo hj hb1 hxb
      by_cases hnl : Pl.isNl (Pl.pk r' 0) = true
      · have E := Lib.hid (escF_nl HX.out (by rw [E6.out]; exact hnl))
        by_cases hv : u = 0 ∨ 1114111 < u ∨ (55296 ≤ u ∧ u < 57344)
        · have EV := Lib.hid (HFP'.out hv)
          rcases hv with rfl | hv | ⟨hv, hv'⟩
          all_goals rcases hsplit with ⟨hj6, hx'⟩ | rfl
          all_goals
            have c3 := h.cell3
            have f3 := h.free 3
            go_wp2_with (first
              | (go_at_call 55; refine (peek_at (by assumption) _ (by omega) (by omega)).mono ?_; rintro e w' ⟨rfl, rfl⟩)
              | (go_at_call 81; refine (newline_from h.opened (gr_put g _ _)).mono ?_; rintro e w1 ⟨rfl, h1, g1⟩)
              | (go_at_call 52; refine (isNewline_any _ _).mono ?_; rintro e w' ⟨rfl, rfl⟩)
              | (go_at_call 89; refine (hex_any _ _).mono ?_; rintro e w' ⟨rfl, rfl⟩))
            all_goals go_ret
            all_goals exact ⟨ret_int (by rw [E.out, E6.out]; first | exact EV.out.symm | (rw [EV.out])), h1.cast (by rw [E.out, E6.out]) (by rw [E.out]; simp), g1⟩
        · have EV := Lib.hid (HFN'.out hv)
          have hv0 : (u == 0) = false := by simp; omega
          have hv1 : u ≤ 1114111 := by omega
          have hv2 : u < 55296 ∨ 57344 ≤ u := by omega
          clear hv
          rcases hv2 with hv2 | hv2
          all_goals rcases hsplit with ⟨hj6, hx'⟩ | rfl
          all_goals
            have c3 := h.cell3
            have f3 := h.free 3
            go_wp2_with (first
              | (go_at_call 55; refine (peek_at (by assumption) _ (by omega) (by omega)).mono ?_; rintro e w' ⟨rfl, rfl⟩)
              | (go_at_call 81; refine (newline_from h.opened (gr_put g _ _)).mono ?_; rintro e w1 ⟨rfl, h1, g1⟩)
              | (go_at_call 52; refine (isNewline_any _ _).mono ?_; rintro e w' ⟨rfl, rfl⟩)
              | (go_at_call 89; refine (hex_any _ _).mono ?_; rintro e w' ⟨rfl, rfl⟩))
            all_goals go_ret
            all_goals exact ⟨ret_int (by rw [E.out, E6.out]; first | exact EV.out.symm | (rw [EV.out])), h1.cast (by rw [E.out, E6.out]) (by rw [E.out]; simp), g1⟩
      · have hnl : Pl.isNl (Pl.pk r' 0) = false := by simpa using hnl
        by_cases hsp : Pl.isSp (Pl.pk r' 0) = true
        · have E := Lib.hid (escF_sp HX.out (by rw [E6.out]; exact hnl) (by rw [E6.out]; exact hsp))
          by_cases hv : u = 0 ∨ 1114111 < u ∨ (55296 ≤ u ∧ u < 57344)
          · have EV := Lib.hid (HFP'.out hv)
            rcases hv with rfl | hv | ⟨hv, hv'⟩
            all_goals rcases hsplit with ⟨hj6, hx'⟩ | rfl
            all_goals
              go_wp2_with (first
                | (go_at_call 55; refine (peek_at (by assumption) _ (by omega) (by omega)).mono ?_; rintro e w' ⟨rfl, rfl⟩)
                | (go_at_call 56; refine (take_from (by assumption) (by assumption)).mono ?_; rintro e w' ⟨rfl, h', g'⟩)
                | (go_at_call 52; refine (isNewline_any _ _).mono ?_; rintro e w' ⟨rfl, rfl⟩)
                | (go_at_call 40; refine (isSpace_any _ _).mono ?_; rintro e w' ⟨rfl, rfl⟩)
                | (go_at_call 89; refine (hex_any _ _).mono ?_; rintro e w' ⟨rfl, rfl⟩))
              all_goals go_ret
              all_goals exact ⟨ret_int (by rw [E.out, E6.out]; first | exact EV.out.symm | (rw [EV.out])), Lx.cast (by assumption) (by rw [E.out, E6.out]) (by rw [E.out]; simp), by assumption⟩
          · have EV := Lib.hid (HFN'.out hv)
            have hv0 : (u == 0) = false := by simp; omega
            have hv1 : u ≤ 1114111 := by omega
            have hv2 : u < 55296 ∨ 57344 ≤ u := by omega
            clear hv
            rcases hv2 with hv2 | hv2
            all_goals rcases hsplit with ⟨hj6, hx'⟩ | rfl
            all_goals
              go_wp2_with (first
                | (go_at_call 55; refine (peek_at (by assumption) _ (by omega) (by omega)).mono ?_; rintro e w' ⟨rfl, rfl⟩)
                | (go_at_call 56; refine (take_from (by assumption) (by assumption)).mono ?_; rintro e w' ⟨rfl, h', g'⟩)
                | (go_at_call 52; refine (isNewline_any _ _).mono ?_; rintro e w' ⟨rfl, rfl⟩)
                | (go_at_call 40; refine (isSpace_any _ _).mono ?_; rintro e w' ⟨rfl, rfl⟩)
                | (go_at_call 89; refine (hex_any _ _).mono ?_; rintro e w' ⟨rfl, rfl⟩))
              all_goals go_ret
              all_goals exact ⟨ret_int (by rw [E.out, E6.out]; first | exact EV.out.symm | (rw [EV.out])), Lx.cast (by assumption) (by rw [E.out, E6.out]) (by rw [E.out]; simp), by assumption⟩
        · have hsp : Pl.isSp (Pl.pk r' 0) = false := by simpa using hsp
          have E := Lib.hid (escF_no HX.out (by rw [E6.out]; exact hnl) (by rw [E6.out]; exact hsp))
          by_cases hv : u = 0 ∨ 1114111 < u ∨ (55296 ≤ u ∧ u < 57344)
          · have EV := Lib.hid (HFP'.out hv)
            rcases hv with rfl | hv | ⟨hv, hv'⟩
            all_goals rcases hsplit with ⟨hj6, hx'⟩ | rfl
            all_goals
              go_wp2_with (first
                | (go_at_call 55; refine (peek_at (by assumption) _ (by omega) (by omega)).mono ?_; rintro e w' ⟨rfl, rfl⟩)
                | (go_at_call 56; refine (take_from (by assumption) (by assumption)).mono ?_; rintro e w' ⟨rfl, h', g'⟩)
                | (go_at_call 52; refine (isNewline_any _ _).mono ?_; rintro e w' ⟨rfl, rfl⟩)
                | (go_at_call 40; refine (isSpace_any _ _).mono ?_; rintro e w' ⟨rfl, rfl⟩)
                | (go_at_call 89; refine (hex_any _ _).mono ?_; rintro e w' ⟨rfl, rfl⟩))
              all_goals go_ret
              all_goals exact ⟨ret_int (by rw [E.out, E6.out]; first | exact EV.out.symm | (rw [EV.out])), Lx.cast (by assumption) (by rw [E.out, E6.out]) (by rw [E.out]; simp), by assumption⟩
          · have EV := Lib.hid (HFN'.out hv)
            have hv0 : (u == 0) = false := by simp; omega
            have hv1 : u ≤ 1114111 := by omega
            have hv2 : u < 55296 ∨ 57344 ≤ u := by omega
            clear hv
            rcases hv2 with hv2 | hv2
            all_goals rcases hsplit with ⟨hj6, hx'⟩ | rfl
            all_goals
              go_wp2_with (first
                | (go_at_call 55; refine (peek_at (by assumption) _ (by omega) (by omega)).mono ?_; rintro e w' ⟨rfl, rfl⟩)
                | (go_at_call 56; refine (take_from (by assumption) (by assumption)).mono ?_; rintro e w' ⟨rfl, h', g'⟩)
                | (go_at_call 52; refine (isNewline_any _ _).mono ?_; rintro e w' ⟨rfl, rfl⟩)
                | (go_at_call 40; refine (isSpace_any _ _).mono ?_; rintro e w' ⟨rfl, rfl⟩)
                | (go_at_call 89; refine (hex_any _ _).mono ?_; rintro e w' ⟨rfl, rfl⟩))
              all_goals go_ret
              all_goals exact ⟨ret_int (by rw [E.out, E6.out]; first | exact EV.out.symm | (rw [EV.out])), Lx.cast (by assumption) (by rw [E.out, E6.out]) (by rw [E.out]; simp), by assumption⟩

theorem escape_from {W w : World} {B : Nat} {s : ByteArray} {r : List Nat} {cm : Value} {b : Bool} (h : Lx w B s r cm b) (g : W.grownBy w (some B)) :
    Calls Tryf.prog 71 #[.pointer (some ⟨B, 0, none⟩)] w fun e w' => e = .returned (.int .i64 (Pl.escF r).1) ∧ (Lx w' B s (Pl.escF r).2.1 cm (b || (Pl.escF r).2.2) ∧ W.grownBy w' (some B)) := by
  rcases (show Pl.hexv (Pl.pk r 0) < 0 ∨ 0 ≤ Pl.hexv (Pl.pk r 0) by omega) with hx | hx
  · exact escape_raw h g hx
  · exact escape_hex h g hx

end Go.Proofs.YtmomkkakjkkakaaFmt
