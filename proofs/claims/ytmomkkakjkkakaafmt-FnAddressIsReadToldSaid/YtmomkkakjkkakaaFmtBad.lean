/-
  WALKS of the reader's methods that give tokens: badURL.
-/
import Derived.Test.YtmomkkakjkkakaaFmtName
set_option linter.unusedVariables false
set_option linter.unusedSimpArgs false
set_option maxRecDepth 100000
namespace Go.Proofs.YtmomkkakjkkakaaFmt
open Go.RowKit

/-- a token as a value -/
abbrev tokV (k st en un : Int) (id : Bool) (tx : ByteArray) : Value := .agg #[.int .i64 k, .int .i64 st, .int .i64 en, .int .i64 un, .bool id, .string tx]
/-- the box of a result: block R of world W1, not the reader's -/
structure Boxed (W1 : World) (R B : Nat) : Prop where
  blk : Blk W1 R 25 #[.int .i64 0, .int .i64 0, .int .i64 0, .int .i64 0, .bool false, .string ⟨#[]⟩]
  ne : R ≠ B
theorem Boxed.at_ {W1 w' : World} {R B : Nat} (h : Boxed W1 R B) (g : W1.grownBy w' (some B)) :
    w'.cell? ⟨R, 0, none⟩ = some (.int .i64 0) ∧ w'.cell? ⟨R, 1, none⟩ = some (.int .i64 0) ∧ w'.cell? ⟨R, 2, none⟩ = some (.int .i64 0) ∧ w'.cell? ⟨R, 3, none⟩ = some (.int .i64 0) ∧
    w'.cell? ⟨R, 4, none⟩ = some (.bool false) ∧ w'.cell? ⟨R, 5, none⟩ = some (.string ⟨#[]⟩) ∧ ∀ i, w'.frozen? ⟨R, i, none⟩ = false := by
  have hb := h.blk.grown g (by intro e; injection e with e; exact h.ne e)
  exact ⟨hb.cell 0, hb.cell 1, hb.cell 2, hb.cell 3, hb.cell 4, hb.cell 5, hb.frozen⟩
theorem Lx.far {w : World} {B R : Nat} {s : ByteArray} {r : List Nat} {cm : Value} {b : Bool} (h : Lx w B s r cm b) (ne : R ≠ B) (i : Nat) (u : Value) : Lx (w.setCell ⟨R, i, none⟩ u) B s r cm b :=
  ⟨h.blk.far (p := ⟨R, i, none⟩) (fun e => ne e.symm) u, h.txt, h.ok, h.le, h.small⟩
theorem Lx.tok {w : World} {B R : Nat} {s : ByteArray} {r : List Nat} {cm : Value} {b : Bool} (h : Lx w B s r cm b) (ne : R ≠ B) {a0 a1 a2 a3 a4 a5 : Value} :
    Lx ((((((w.setCell ⟨R, 0, none⟩ a0).setCell ⟨R, 1, none⟩ a1).setCell ⟨R, 2, none⟩ a2).setCell ⟨R, 3, none⟩ a3).setCell ⟨R, 4, none⟩ a4).setCell ⟨R, 5, none⟩ a5) B s r cm b :=
  (((((h.far ne 0 a0).far ne 1 a1).far ne 2 a2).far ne 3 a3).far ne 4 a4).far ne 5 a5
theorem gr_far {W w : World} {R B : Nat} (g : W.grownBy w (some B)) (hR : W.heap.size ≤ R) (i : Nat) (u : Value) : W.grownBy (w.setCell ⟨R, i, none⟩ u) (some B) :=
  ⟨g.os, g.tape, g.output, by simpa [World.setCell] using g.size, fun k hk hne => (Below.heap_setCell w _ u k (by simp only []; omega)).trans (g.block k hk hne)⟩
theorem gr_tok {W w : World} {R B : Nat} (g : W.grownBy w (some B)) (hR : W.heap.size ≤ R) {a0 a1 a2 a3 a4 a5 : Value} :
    W.grownBy ((((((w.setCell ⟨R, 0, none⟩ a0).setCell ⟨R, 1, none⟩ a1).setCell ⟨R, 2, none⟩ a2).setCell ⟨R, 3, none⟩ a3).setCell ⟨R, 4, none⟩ a4).setCell ⟨R, 5, none⟩ a5) (some B) :=
  gr_far (gr_far (gr_far (gr_far (gr_far (gr_far g hR 0 a0) hR 1 a1) hR 2 a2) hR 3 a3) hR 4 a4) hR 5 a5

set_option maxHeartbeats 1000000 in
theorem badURL_from {W w : World} {B : Nat} {s : ByteArray} {r : List Nat} {cm : Value} {b : Bool} (h : Lx w B s r cm b) (g : W.grownBy w (some B)) :
    Calls Tryf.prog 94 #[.pointer (some ⟨B, 0, none⟩)] w fun e w' => e = .returned (tokV 3 0 0 0 false (S [])) ∧ (Lx w' B s (Pl.badF r).1 cm (b || (Pl.badF r).2) ∧ W.grownBy w' (some B)) := by
  have hlt := h.blk.lt
  go_enter Tryf.func94, Tryf.ntmps94
  go_wp2_with fail
  obtain ⟨R, hR⟩ : ∃ R, R = w.heap.size := ⟨_, rfl⟩
  rw [← hR]
  obtain ⟨W1, hW1⟩ : ∃ W1, W1 = w.alloc (.cells #[.int .i64 0, .int .i64 0, .int .i64 0, .int .i64 0, .bool false, .string ⟨#[]⟩] 25) := ⟨_, rfl⟩
  rw [← hW1]
  have HB : Hid (Boxed W1 R B) := Lib.hid ⟨by rw [hW1, hR]; exact Blk.new _ _ _, by omega⟩
  have h1 : Lx W1 B s r cm b := by rw [hW1]; exact h.keep (World.grownBy_alloc w _ none) (by simp)
  have HG : Hid (W.grownBy W1 (some B) ∧ W.heap.size ≤ R) := Lib.hid ⟨by rw [hW1]; exact gr_alloc g _, by rw [hR]; exact g.size⟩
  clear hW1 hR h g hlt
  have g1 := gr_refl W1 (some B)
  go_loopg [] (r.length + 1) (fun k wr => ∃ (r' : List Nat) (b' : Bool), k = r'.length + 1 ∧ Lx wr B s r' cm b' ∧ W1.grownBy wr (some B) ∧ Hid (Pl.badF r = ((Pl.badF r').1, (Pl.badF r).2) ∧ (b || (Pl.badF r).2) = (b' || (Pl.badF r').2)))
  case atStart => exact ⟨r, b, rfl, h1, g1, Lib.hid ⟨rfl, rfl⟩⟩
  case round =>
    clear h1 g1
    obtain ⟨r', b', rfl, h, g, HE⟩ := hrel
    by_cases h41 : Pl.pk r' 0 = 41
    · have k41 : (Pl.pk r' 0 == 41) = true := by simp [h41]
      have HN := Lib.hid (Pl.badF_end (Pl.pk_ne_nil (by omega)) h41)
      clear h41
      go_wp2_with (first | (go_at_call 56; refine (take_from (by assumption) (by assumption)).mono ?_; rintro e w' ⟨rfl, h', g'⟩; have bx := HB.out.at_ g'))
      refine bodyPost_ret (v := tokV 3 0 0 0 false (S [])) (by simp [results, Tryf.results94, go_sem, tokV, S, bx]) rfl ⟨rfl, Lx.cast (Lx.tok (by assumption) HB.out.ne) (by rw [HE.out.1, HN.out]) (by rw [HE.out.2, HN.out]; simp), gr_tok (gr_trans HG.out.1 g') HG.out.2⟩
    · have k41 : (Pl.pk r' 0 == 41) = false := by simp [h41]
      have H41 := Lib.hid h41
      clear h41
      by_cases he : Pl.pk r' 0 = -1
      · obtain rfl := Pl.pk_end he
        clear he H41 k41
        have k41 : (Pl.pk [] 0 == 41) = false := by decide
        have ke : (Pl.pk [] 0 == -1) = true := by decide
        go_wp2_with (first | (go_at_call 56; refine (take_from (by assumption) (by assumption)).mono ?_; rintro e w' ⟨rfl, h', g'⟩; have bx := HB.out.at_ g'; have c3 := h'.cell3; have f3 := h'.free 3; have bx2 := HB.out.at_ (gr_put g' 3 (.bool true))))
        refine bodyPost_ret (v := tokV 3 0 0 0 false (S [])) (by simp [results, Tryf.results94, go_sem, tokV, S, bx, bx2]) rfl ⟨rfl, Lx.cast (Lx.tok h'.opened HB.out.ne) (by rw [HE.out.1, Pl.badF_nil]; rfl) (by rw [HE.out.2, Pl.badF_nil]; simp), gr_tok (gr_trans HG.out.1 (gr_put g' _ _)) HG.out.2⟩
      · have ke : (Pl.pk r' 0 == -1) = false := by simp [he]
        have HNE := Lib.hid (Pl.pk_ne_nil he)
        clear he
        by_cases hx : Pl.escB (Pl.pk r' 0) (Pl.pk r' 1) = true
        · have HX := Lib.hid hx
          have hx' : Pl.escB (Pl.pk r' 0) (Pl.pk r'.tail 0) = true := by rw [Pl.pk_tail]; exact hx
          clear hx
          go_wp2_with (first | (go_at_call 56; refine (take_from (by assumption) (by assumption)).mono ?_; rintro e w' ⟨rfl, h', g'⟩; have bx := HB.out.at_ g') | (go_at_call 55; refine (peek_at (by assumption) _ (by omega) (by omega)).mono ?_; rintro e w' ⟨rfl, rfl⟩) | (go_at_call 60; refine (escapes_any _ _ _).mono ?_; rintro e w' ⟨rfl, rfl⟩) | (go_at_call 71; refine (escape_from (by assumption) (by assumption)).mono ?_; rintro e w' ⟨rfl, h', g'⟩))
          go_roundg ((Pl.escF r'.tail).2.1.length + 1)
          case measure => have := Pl.escF_len r'.tail; have := Pl.tail_lt HNE.out; omega
          case rel => exact ⟨(Pl.escF r'.tail).2.1, b' || (Pl.escF r'.tail).2.2, rfl, by assumption, by assumption, Lib.hid ⟨by rw [HE.out.1, Pl.badF_esc HNE.out H41.out HX.out], by rw [HE.out.2, Pl.badF_esc HNE.out H41.out HX.out, Bool.or_assoc]⟩⟩
        · have hx : Pl.escB (Pl.pk r' 0) (Pl.pk r' 1) = false := by simpa using hx
          have HX := Lib.hid hx
          have hx' : Pl.escB (Pl.pk r' 0) (Pl.pk r'.tail 0) = false := by rw [Pl.pk_tail]; exact hx
          clear hx
          go_wp2_with (first | (go_at_call 56; refine (take_from (by assumption) (by assumption)).mono ?_; rintro e w' ⟨rfl, h', g'⟩; have bx := HB.out.at_ g') | (go_at_call 55; refine (peek_at (by assumption) _ (by omega) (by omega)).mono ?_; rintro e w' ⟨rfl, rfl⟩) | (go_at_call 60; refine (escapes_any _ _ _).mono ?_; rintro e w' ⟨rfl, rfl⟩) | (go_at_call 71; refine (escape_from (by assumption) (by assumption)).mono ?_; rintro e w' ⟨rfl, h', g'⟩))
          go_roundg (r'.tail.length + 1)
          case measure => have := Pl.tail_lt HNE.out; omega
          case rel => exact ⟨r'.tail, b', rfl, by assumption, by assumption, Lib.hid ⟨by rw [HE.out.1, Pl.badF_char HNE.out H41.out HX.out], by rw [HE.out.2, Pl.badF_char HNE.out H41.out HX.out]⟩⟩

end Go.Proofs.YtmomkkakjkkakaaFmt
