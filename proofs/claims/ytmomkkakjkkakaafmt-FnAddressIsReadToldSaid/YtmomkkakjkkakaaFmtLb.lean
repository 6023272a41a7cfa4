/-
  WALKS of the reader's methods: newline, digits, spaces, escape.
-/
import Derived.Test.YtmomkkakjkkakaaFmtTake
import Derived.Test.YtmomkkakjkkakaaFmtRead
import Derived.Deep.LoopGhost
set_option linter.unusedVariables false
set_option linter.unusedSimpArgs false
set_option maxRecDepth 100000
namespace Go.Proofs.YtmomkkakjkkakaaFmt
open Go.RowKit

theorem Lx.cast {w : World} {B : Nat} {s : ByteArray} {r r' : List Nat} {cm : Value} {b b' : Bool} (h : Lx w B s r cm b) (e : r = r') (e' : b = b') : Lx w B s r' cm b' := by subst e; subst e'; exact h
theorem Lx.opened {w : World} {B : Nat} {s : ByteArray} {r : List Nat} {cm : Value} {b : Bool} (h : Lx w B s r cm b) : Lx (w.setCell ⟨B, 3, none⟩ (.bool true)) B s r cm true :=
  ⟨h.blk.put 3 _, h.txt, h.ok, h.le, h.small⟩
theorem Lx.cell0 {w : World} {B : Nat} {s : ByteArray} {r : List Nat} {cm : Value} {b : Bool} (h : Lx w B s r cm b) : w.cell? ⟨B, 0, none⟩ = some (.string s) := h.blk.cell 0
theorem Lx.cell1 {w : World} {B : Nat} {s : ByteArray} {r : List Nat} {cm : Value} {b : Bool} (h : Lx w B s r cm b) : w.cell? ⟨B, 1, none⟩ = some (.int .i64 (Pl.posN s.size r)) := h.blk.cell 1
theorem Lx.cell2 {w : World} {B : Nat} {s : ByteArray} {r : List Nat} {cm : Value} {b : Bool} (h : Lx w B s r cm b) : w.cell? ⟨B, 2, none⟩ = some cm := h.blk.cell 2
theorem Lx.cell3 {w : World} {B : Nat} {s : ByteArray} {r : List Nat} {cm : Value} {b : Bool} (h : Lx w B s r cm b) : w.cell? ⟨B, 3, none⟩ = some (.bool b) := h.blk.cell 3
theorem Lx.free {w : World} {B : Nat} {s : ByteArray} {r : List Nat} {cm : Value} {b : Bool} (h : Lx w B s r cm b) (i : Nat) : w.frozen? ⟨B, i, none⟩ = false := h.blk.frozen i

theorem peek_at {w : World} {B : Nat} {s : ByteArray} {r : List Nat} {cm : Value} {b : Bool} (h : Lx w B s r cm b) (k : Int) (h0 : 0 ≤ k) (h8 : k ≤ 8) :
    Calls Tryf.prog 55 #[.pointer (some ⟨B, 0, none⟩), .int .i64 k] w fun e w' => e = .returned (.int .i64 (Pl.pk r k.toNat)) ∧ w = w' := by
  obtain ⟨n, rfl⟩ := Int.eq_ofNat_of_zero_le h0
  exact peek_any h n (by omega)
theorem take_from {W w : World} {B : Nat} {s : ByteArray} {r : List Nat} {cm : Value} {b : Bool} (h : Lx w B s r cm b) (g : W.grownBy w (some B)) :
    Calls Tryf.prog 56 #[.pointer (some ⟨B, 0, none⟩)] w fun e w' => e = .returned (.int .i64 (Pl.pk r 0)) ∧ (Lx w' B s r.tail cm b ∧ W.grownBy w' (some B)) :=
  (take_any h).mono fun e w' ⟨a, b, c⟩ => ⟨a, b, gr_trans g c⟩

theorem newline_from {W w : World} {B : Nat} {s : ByteArray} {r : List Nat} {cm : Value} {b : Bool} (h : Lx w B s r cm b) (g : W.grownBy w (some B)) :
    Calls Tryf.prog 81 #[.pointer (some ⟨B, 0, none⟩)] w fun e w' => e = .returned (.tuple #[]) ∧ (Lx w' B s (Pl.nlF r) cm b ∧ W.grownBy w' (some B)) := by
  by_cases h13 : Pl.pk r 0 = 13
  · have k13 : (Pl.pk r 0 == 13) = true := by simp [h13]
    by_cases h10 : Pl.pk r.tail 0 = 10
    · have k10 : (Pl.pk r.tail 0 == 10) = true := by simp [h10]
      have E := Lib.hid (show Pl.nlF r = r.tail.tail by
        rw [Pl.pk_tail] at h10; unfold Pl.nlF; rw [if_pos ⟨h13, h10⟩]; cases r with | nil => rfl | cons c t => cases t <;> rfl)
      clear h13 h10
      go_enter Tryf.func81, Tryf.ntmps81
      go_wp2_with (first
    | (go_at_call 55; refine (peek_at (by assumption) _ (by omega) (by omega)).mono ?_; rintro e w' ⟨rfl, rfl⟩)
    | (go_at_call 56; refine (take_from (by assumption) (by assumption)).mono ?_; rintro e w' ⟨rfl, h', g'⟩))
      go_end0
      exact ⟨rfl, Lx.cast (by assumption) E.out.symm rfl, by assumption⟩
    · have k10 : (Pl.pk r.tail 0 == 10) = false := by simp [h10]
      have E := Lib.hid (show Pl.nlF r = r.tail by
        rw [Pl.pk_tail] at h10; unfold Pl.nlF; rw [if_neg (fun e => h10 e.2)]; cases r <;> rfl)
      clear h13 h10
      go_enter Tryf.func81, Tryf.ntmps81
      go_wp2_with (first
    | (go_at_call 55; refine (peek_at (by assumption) _ (by omega) (by omega)).mono ?_; rintro e w' ⟨rfl, rfl⟩)
    | (go_at_call 56; refine (take_from (by assumption) (by assumption)).mono ?_; rintro e w' ⟨rfl, h', g'⟩))
      go_end0
      exact ⟨rfl, Lx.cast (by assumption) E.out.symm rfl, by assumption⟩
  · have k13 : (Pl.pk r 0 == 13) = false := by simp [h13]
    have E := Lib.hid (show Pl.nlF r = r.tail by
      unfold Pl.nlF; rw [if_neg (fun e => h13 e.1)]; cases r <;> rfl)
    clear h13
    go_enter Tryf.func81, Tryf.ntmps81
    go_wp2_with (first
    | (go_at_call 55; refine (peek_at (by assumption) _ (by omega) (by omega)).mono ?_; rintro e w' ⟨rfl, rfl⟩)
    | (go_at_call 56; refine (take_from (by assumption) (by assumption)).mono ?_; rintro e w' ⟨rfl, h', g'⟩))
    go_end0
    exact ⟨rfl, Lx.cast (by assumption) E.out.symm rfl, by assumption⟩

theorem spaces_from {W w : World} {B : Nat} {s : ByteArray} {r : List Nat} {cm : Value} {b : Bool} (h : Lx w B s r cm b) (g : W.grownBy w (some B)) :
    Calls Tryf.prog 57 #[.pointer (some ⟨B, 0, none⟩)] w fun e w' => e = .returned (.tuple #[]) ∧ (Lx w' B s (Pl.spF r) cm b ∧ W.grownBy w' (some B)) := by
  go_enter Tryf.func57, Tryf.ntmps57
  go_wp2_with fail
  go_loopg [] r.length (fun k wr => ∃ r', k = r'.length ∧ Lx wr B s r' cm b ∧ W.grownBy wr (some B) ∧ Hid (Pl.spF r = Pl.spF r'))
  case atStart => exact ⟨r, rfl, h, g, Lib.hid rfl⟩
  case round =>
    clear h g
    obtain ⟨r', rfl, h, g, HE⟩ := hrel
    by_cases hb : Pl.isSp (Pl.pk r' 0) = true
    · have HB := Lib.hid hb
      go_wp2_with (first
    | (go_at_call 55; refine (peek_at (by assumption) _ (by omega) (by omega)).mono ?_; rintro e w' ⟨rfl, rfl⟩)
    | (go_at_call 56; refine (take_from (by assumption) (by assumption)).mono ?_; rintro e w' ⟨rfl, h', g'⟩)
    | (go_at_call 40; refine (isSpace_any _ _).mono ?_; rintro e w' ⟨rfl, rfl⟩))
      go_roundg r'.tail.length
      case measure => exact Pl.tail_lt (Pl.isSp_ne_nil HB.out)
      case rel => exact ⟨r'.tail, rfl, by assumption, by assumption, Lib.hid (by rw [HE.out, Pl.spF_yes HB.out])⟩
    · have hb : Pl.isSp (Pl.pk r' 0) = false := by simpa using hb
      have HB := Lib.hid hb
      go_wp2_with (first
    | (go_at_call 55; refine (peek_at (by assumption) _ (by omega) (by omega)).mono ?_; rintro e w' ⟨rfl, rfl⟩)
    | (go_at_call 56; refine (take_from (by assumption) (by assumption)).mono ?_; rintro e w' ⟨rfl, h', g'⟩)
    | (go_at_call 40; refine (isSpace_any _ _).mono ?_; rintro e w' ⟨rfl, rfl⟩))
      go_end0
      exact ⟨rfl, h.cast (by rw [HE.out, Pl.spF_no HB.out]) rfl, by assumption⟩

theorem digits_from {W w : World} {B : Nat} {s : ByteArray} {r : List Nat} {cm : Value} {b : Bool} (h : Lx w B s r cm b) (g : W.grownBy w (some B)) :
    Calls Tryf.prog 84 #[.pointer (some ⟨B, 0, none⟩)] w fun e w' => e = .returned (.tuple #[]) ∧ (Lx w' B s (Pl.dgF r) cm b ∧ W.grownBy w' (some B)) := by
  go_enter Tryf.func84, Tryf.ntmps84
  go_wp2_with fail
  go_loopg [] r.length (fun k wr => ∃ r', k = r'.length ∧ Lx wr B s r' cm b ∧ W.grownBy wr (some B) ∧ Hid (Pl.dgF r = Pl.dgF r'))
  case atStart => exact ⟨r, rfl, h, g, Lib.hid rfl⟩
  case round =>
    clear h g
    obtain ⟨r', rfl, h, g, HE⟩ := hrel
    by_cases hb : Pl.digB (Pl.pk r' 0) = true
    · have HB := Lib.hid hb
      go_wp2_with (first
    | (go_at_call 55; refine (peek_at (by assumption) _ (by omega) (by omega)).mono ?_; rintro e w' ⟨rfl, rfl⟩)
    | (go_at_call 56; refine (take_from (by assumption) (by assumption)).mono ?_; rintro e w' ⟨rfl, h', g'⟩)
    | (go_at_call 83; refine (isDigit_any _ _).mono ?_; rintro e w' ⟨rfl, rfl⟩))
      go_roundg r'.tail.length
      case measure => exact Pl.tail_lt (Pl.digB_ne_nil HB.out)
      case rel => exact ⟨r'.tail, rfl, by assumption, by assumption, Lib.hid (by rw [HE.out, Pl.dgF_yes HB.out])⟩
    · have hb : Pl.digB (Pl.pk r' 0) = false := by simpa using hb
      have HB := Lib.hid hb
      go_wp2_with (first
    | (go_at_call 55; refine (peek_at (by assumption) _ (by omega) (by omega)).mono ?_; rintro e w' ⟨rfl, rfl⟩)
    | (go_at_call 56; refine (take_from (by assumption) (by assumption)).mono ?_; rintro e w' ⟨rfl, h', g'⟩)
    | (go_at_call 83; refine (isDigit_any _ _).mono ?_; rintro e w' ⟨rfl, rfl⟩))
      go_end0
      exact ⟨rfl, h.cast (by rw [HE.out, Pl.dgF_no HB.out]) rfl, by assumption⟩

end Go.Proofs.YtmomkkakjkkakaaFmt
