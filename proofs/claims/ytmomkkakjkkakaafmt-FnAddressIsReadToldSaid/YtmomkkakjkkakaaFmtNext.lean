/-
  WALK of the reader's next.
-/
import Derived.Test.YtmomkkakjkkakaaFmtSign
set_option linter.unusedVariables false
set_option linter.unusedSimpArgs false
set_option maxRecDepth 100000
namespace Go.Proofs.YtmomkkakjkkakaaFmt
open Go.RowKit


theorem ascii_adv {r : List Nat} (h0 : 0 ≤ Pl.pk r 0) (h1 : Pl.pk r 0 < 128) : adv r = 1 := by
  cases r with
  | nil => simp [Pl.pk] at h0
  | cons c t =>
    rw [Pl.pk_cons] at h1
    show ((Pl.enc c).length : Int) = 1
    rw [enc1 (c := c) (by omega)]; rfl
theorem posN_three {T : Nat} {r : List Nat} (hl : (Pl.encs r).length ≤ T) (h0 : 0 ≤ Pl.pk r 0 ∧ Pl.pk r 0 < 128) (h1 : 0 ≤ Pl.pk r 1 ∧ Pl.pk r 1 < 128) (h2 : 0 ≤ Pl.pk r 2 ∧ Pl.pk r 2 < 128) :
    (Pl.posN T r : Int) + 3 = Pl.posN T (r.drop 3) := by
  have a0 := posN_adv hl
  have a1 := posN_adv (tail_le hl)
  have a2 := posN_adv (tail_le (tail_le hl))
  rw [ascii_adv h0.1 h0.2] at a0
  rw [ascii_adv (by rw [Pl.pk_tail]; exact h1.1) (by rw [Pl.pk_tail]; exact h1.2)] at a1
  rw [ascii_adv (by rw [Pl.pk_tail, Pl.pk_tail]; exact h2.1) (by rw [Pl.pk_tail, Pl.pk_tail]; exact h2.2)] at a2
  have e : r.tail.tail.tail = r.drop 3 := by rw [← List.drop_one, ← List.drop_one, ← List.drop_one]; simp
  rw [e] at a2
  omega
theorem posN_four {T : Nat} {r : List Nat} (hl : (Pl.encs r).length ≤ T) (h0 : 0 ≤ Pl.pk r 0 ∧ Pl.pk r 0 < 128) (h1 : 0 ≤ Pl.pk r 1 ∧ Pl.pk r 1 < 128) (h2 : 0 ≤ Pl.pk r 2 ∧ Pl.pk r 2 < 128) (h3 : 0 ≤ Pl.pk r 3 ∧ Pl.pk r 3 < 128) :
    (Pl.posN T r : Int) + 4 = Pl.posN T (r.drop 4) := by
  have a0 := posN_three hl h0 h1 h2
  have a1 := posN_adv (drop_le hl 3)
  rw [ascii_adv (by rw [pk_drop]; exact h3.1) (by rw [pk_drop]; exact h3.2)] at a1
  have e : (r.drop 3).tail = r.drop 4 := List.tail_drop
  rw [e] at a1
  omega
theorem numericF_id (T : Nat) (r : List Nat) : (Pl.numericF T r).tok.id = false := by unfold Pl.numericF; (repeat' split) <;> rfl
theorem numericF_text (T : Nat) (r : List Nat) : (Pl.numericF T r).tok.text = [] := by unfold Pl.numericF; (repeat' split) <;> rfl
theorem namedF_tid (T : Nat) (r : List Nat) : (Pl.namedF T r).tok.id = false := by unfold Pl.namedF; (repeat' split) <;> rfl
theorem namedF_unit (T : Nat) (r : List Nat) : (Pl.namedF T r).tok.unit = 0 := by unfold Pl.namedF; (repeat' split) <;> rfl
theorem Lx.dropped {w : World} {B : Nat} {s : ByteArray} {r : List Nat} {cm : Value} {b : Bool} (h : Lx w B s r cm b) (j : Nat) : Lx (w.setCell ⟨B, 1, none⟩ (.int .i64 (Pl.posN s.size (r.drop j)))) B s (r.drop j) cm b :=
  ⟨h.blk.put 1 _, drop_txt h.le h.txt j, fun c hc => h.ok c (List.mem_of_mem_drop hc), drop_le h.le j, h.small⟩
set_option maxHeartbeats 2000000 in
theorem next_end {W w : World} {B : Nat} {s : ByteArray} {r : List Nat} {cm : Value} {b : Bool} (h : Lx w B s r cm b) (g : W.grownBy w (some B)) (he : Pl.pk r 0 = -1) :
    Calls Tryf.prog 44 #[.pointer (some ⟨B, 0, none⟩)] w fun e w' => e = .returned (tokV ((Pl.nextF s.size r).tok.kind : Int) 0 0 (Pl.nextF s.size r).tok.unit (Pl.nextF s.size r).tok.id (S (Pl.nextF s.size r).tok.text)) ∧
      (Lx w' B s (Pl.nextF s.size r).rest cm (b || (Pl.nextF s.size r).opn) ∧ W.grownBy w' (some B)) := by
  have hlt := h.blk.lt
  have ke : (Pl.pk r 0 == -1) = true := by simp [he]
  have E := Lib.hid (show Pl.nextF s.size r = _ by unfold Pl.nextF; rw [if_pos he])
  clear he
  go_enter Tryf.func44, Tryf.ntmps44
  go_wp2_with fail
  obtain ⟨R, hR⟩ : ∃ R, R = w.heap.size := ⟨_, rfl⟩
  rw [← hR]
  obtain ⟨W1, hW1⟩ : ∃ W1, W1 = w.alloc (.cells #[.int .i64 0, .int .i64 0, .int .i64 0, .int .i64 0, .bool false, .string ⟨#[]⟩] 25) := ⟨_, rfl⟩
  rw [← hW1]
  have HB : Hid (Boxed W1 R B) := Lib.hid ⟨by rw [hW1, hR]; exact Blk.new _ _ _, by omega⟩
  have h1 : Lx W1 B s r cm b := by rw [hW1]; exact h.keep (World.grownBy_alloc w _ none) (by simp)
  have HG : Hid (W.grownBy W1 (some B) ∧ W.heap.size ≤ R) := Lib.hid ⟨by rw [hW1]; exact gr_alloc g _, by rw [hR]; exact g.size⟩
  clear hW1 hR h g hlt
  have g1 := gr_refl W1 (some B)
  have bx := HB.out.at_ g1
  go_wp2_with (first | (go_at_call 55; refine (peek_at (by assumption) _ (by omega) (by omega)).mono ?_; rintro e w' ⟨rfl, rfl⟩))
  refine bodyPost_ret (v := tokV 0 0 0 0 false (S [])) (by simp [results, Tryf.results44, go_sem, tokV, S, bx]) rfl ⟨by rw [E.out]; rfl, Lx.cast (Lx.tok h1 HB.out.ne) (by rw [E.out]) (by rw [E.out]; simp), gr_tok (gr_trans HG.out.1 g1) HG.out.2⟩

set_option maxHeartbeats 2000000 in
theorem next_space {W w : World} {B : Nat} {s : ByteArray} {r : List Nat} {cm : Value} {b : Bool} (h : Lx w B s r cm b) (g : W.grownBy w (some B)) (hsp : Pl.isSp (Pl.pk r 0) = true) :
    Calls Tryf.prog 44 #[.pointer (some ⟨B, 0, none⟩)] w fun e w' => e = .returned (tokV ((Pl.nextF s.size r).tok.kind : Int) 0 0 (Pl.nextF s.size r).tok.unit (Pl.nextF s.size r).tok.id (S (Pl.nextF s.size r).tok.text)) ∧
      (Lx w' B s (Pl.nextF s.size r).rest cm (b || (Pl.nextF s.size r).opn) ∧ W.grownBy w' (some B)) := by
  have hlt := h.blk.lt
  have he : Pl.pk r 0 ≠ -1 := by intro e; rw [e] at hsp; simp [Pl.isSp] at hsp
  have ke : (Pl.pk r 0 == -1) = false := by simp [he]
  have E := Lib.hid (show Pl.nextF s.size r = _ by unfold Pl.nextF; rw [if_neg he, if_pos hsp])
  clear he
  go_enter Tryf.func44, Tryf.ntmps44
  go_wp2_with fail
  obtain ⟨R, hR⟩ : ∃ R, R = w.heap.size := ⟨_, rfl⟩
  rw [← hR]
  obtain ⟨W1, hW1⟩ : ∃ W1, W1 = w.alloc (.cells #[.int .i64 0, .int .i64 0, .int .i64 0, .int .i64 0, .bool false, .string ⟨#[]⟩] 25) := ⟨_, rfl⟩
  rw [← hW1]
  have HB : Hid (Boxed W1 R B) := Lib.hid ⟨by rw [hW1, hR]; exact Blk.new _ _ _, by omega⟩
  have h1 : Lx W1 B s r cm b := by rw [hW1]; exact h.keep (World.grownBy_alloc w _ none) (by simp)
  have HG : Hid (W.grownBy W1 (some B) ∧ W.heap.size ≤ R) := Lib.hid ⟨by rw [hW1]; exact gr_alloc g _, by rw [hR]; exact g.size⟩
  clear hW1 hR h g hlt
  have g1 := gr_refl W1 (some B)
  go_wp2_with (first | (go_at_call 55; refine (peek_at (by assumption) _ (by omega) (by omega)).mono ?_; rintro e w' ⟨rfl, rfl⟩) | (go_at_call 40; refine (isSpace_any _ _).mono ?_; rintro e w' ⟨rfl, rfl⟩) | (go_at_call 57; refine (spaces_from (by assumption) (by assumption)).mono ?_; rintro e w' ⟨rfl, h', g'⟩; have bx := HB.out.at_ g'))
  refine bodyPost_ret (v := tokV 38 0 0 0 false (S [])) (by simp [results, Tryf.results44, go_sem, tokV, S, bx]) rfl ⟨by rw [E.out]; rfl, Lx.cast (Lx.tok (by assumption) HB.out.ne) (by rw [E.out]) (by rw [E.out]; simp), gr_tok (gr_trans HG.out.1 g') HG.out.2⟩

set_option maxHeartbeats 2000000 in
theorem next_quote34 {W w : World} {B : Nat} {s : ByteArray} {r : List Nat} {cm : Value} {b : Bool} (h : Lx w B s r cm b) (g : W.grownBy w (some B)) (hq : Pl.pk r 0 = 34) :
    Calls Tryf.prog 44 #[.pointer (some ⟨B, 0, none⟩)] w fun e w' => e = .returned (tokV ((Pl.nextF s.size r).tok.kind : Int) 0 0 (Pl.nextF s.size r).tok.unit (Pl.nextF s.size r).tok.id (S (Pl.nextF s.size r).tok.text)) ∧
      (Lx w' B s (Pl.nextF s.size r).rest cm (b || (Pl.nextF s.size r).opn) ∧ W.grownBy w' (some B)) := by
  have hlt := h.blk.lt
  have he : Pl.pk r 0 ≠ -1 := by omega
  have ke : (Pl.pk r 0 == -1) = false := by simp; omega
  have hsp : Pl.isSp (Pl.pk r 0) = false := by rw [hq]; decide
  have k34 : (Pl.pk r 0 == 34) = true := by simp [hq]
  have HQQ := Lib.hid (show Pl.pk r 0 = ((34 : Nat) : Int) from hq)
  have hqn : (Pl.pk r 0).toNat = 34 := by omega
  have E := Lib.hid (show Pl.nextF s.size r = _ by unfold Pl.nextF; rw [if_neg he, if_neg (by simp [hsp]), if_pos (by omega), hqn])
  clear he hq hqn
  go_enter Tryf.func44, Tryf.ntmps44
  go_wp2_with fail
  obtain ⟨R, hR⟩ : ∃ R, R = w.heap.size := ⟨_, rfl⟩
  rw [← hR]
  obtain ⟨W1, hW1⟩ : ∃ W1, W1 = w.alloc (.cells #[.int .i64 0, .int .i64 0, .int .i64 0, .int .i64 0, .bool false, .string ⟨#[]⟩] 25) := ⟨_, rfl⟩
  rw [← hW1]
  have HB : Hid (Boxed W1 R B) := Lib.hid ⟨by rw [hW1, hR]; exact Blk.new _ _ _, by omega⟩
  have h1 : Lx W1 B s r cm b := by rw [hW1]; exact h.keep (World.grownBy_alloc w _ none) (by simp)
  have HG : Hid (W.grownBy W1 (some B) ∧ W.heap.size ≤ R) := Lib.hid ⟨by rw [hW1]; exact gr_alloc g _, by rw [hR]; exact g.size⟩
  clear hW1 hR h g hlt
  have g1 := gr_refl W1 (some B)
  go_wp2_with (first | (go_at_call 55; refine (peek_at (by assumption) _ (by omega) (by omega)).mono ?_; rintro e w' ⟨rfl, rfl⟩) | (go_at_call 40; refine (isSpace_any _ _).mono ?_; rintro e w' ⟨rfl, rfl⟩) | (go_at_call 58; refine (quoted_from (by assumption) (by assumption) _ HQQ.out).mono ?_; rintro e w' ⟨rfl, h', g'⟩; have bx := HB.out.at_ g'))
  refine bodyPost_ret (v := tokV ((Pl.quotF 34 r.tail).1 : Int) 0 0 0 false (S (Pl.encs (Pl.quotF 34 r.tail).2.1))) (by simp [results, Tryf.results44, go_sem, tokV, S, bx]) rfl ⟨by rw [E.out], Lx.cast (Lx.tok (by assumption) HB.out.ne) (by rw [E.out]) (by rw [E.out]), gr_tok (gr_trans HG.out.1 g') HG.out.2⟩

set_option maxHeartbeats 2000000 in
theorem next_quote39 {W w : World} {B : Nat} {s : ByteArray} {r : List Nat} {cm : Value} {b : Bool} (h : Lx w B s r cm b) (g : W.grownBy w (some B)) (hq : Pl.pk r 0 = 39) :
    Calls Tryf.prog 44 #[.pointer (some ⟨B, 0, none⟩)] w fun e w' => e = .returned (tokV ((Pl.nextF s.size r).tok.kind : Int) 0 0 (Pl.nextF s.size r).tok.unit (Pl.nextF s.size r).tok.id (S (Pl.nextF s.size r).tok.text)) ∧
      (Lx w' B s (Pl.nextF s.size r).rest cm (b || (Pl.nextF s.size r).opn) ∧ W.grownBy w' (some B)) := by
  have hlt := h.blk.lt
  have he : Pl.pk r 0 ≠ -1 := by omega
  have ke : (Pl.pk r 0 == -1) = false := by simp; omega
  have hsp : Pl.isSp (Pl.pk r 0) = false := by rw [hq]; decide
  have k34 : (Pl.pk r 0 == 34) = false := by rw [hq]; decide
  have k39 : (Pl.pk r 0 == 39) = true := by simp [hq]
  have HQQ := Lib.hid (show Pl.pk r 0 = ((39 : Nat) : Int) from hq)
  have hqn : (Pl.pk r 0).toNat = 39 := by omega
  have E := Lib.hid (show Pl.nextF s.size r = _ by unfold Pl.nextF; rw [if_neg he, if_neg (by simp [hsp]), if_pos (by omega), hqn])
  clear he hq hqn
  go_enter Tryf.func44, Tryf.ntmps44
  go_wp2_with fail
  obtain ⟨R, hR⟩ : ∃ R, R = w.heap.size := ⟨_, rfl⟩
  rw [← hR]
  obtain ⟨W1, hW1⟩ : ∃ W1, W1 = w.alloc (.cells #[.int .i64 0, .int .i64 0, .int .i64 0, .int .i64 0, .bool false, .string ⟨#[]⟩] 25) := ⟨_, rfl⟩
  rw [← hW1]
  have HB : Hid (Boxed W1 R B) := Lib.hid ⟨by rw [hW1, hR]; exact Blk.new _ _ _, by omega⟩
  have h1 : Lx W1 B s r cm b := by rw [hW1]; exact h.keep (World.grownBy_alloc w _ none) (by simp)
  have HG : Hid (W.grownBy W1 (some B) ∧ W.heap.size ≤ R) := Lib.hid ⟨by rw [hW1]; exact gr_alloc g _, by rw [hR]; exact g.size⟩
  clear hW1 hR h g hlt
  have g1 := gr_refl W1 (some B)
  go_wp2_with (first | (go_at_call 55; refine (peek_at (by assumption) _ (by omega) (by omega)).mono ?_; rintro e w' ⟨rfl, rfl⟩) | (go_at_call 40; refine (isSpace_any _ _).mono ?_; rintro e w' ⟨rfl, rfl⟩) | (go_at_call 58; refine (quoted_from (by assumption) (by assumption) _ HQQ.out).mono ?_; rintro e w' ⟨rfl, h', g'⟩; have bx := HB.out.at_ g'))
  refine bodyPost_ret (v := tokV ((Pl.quotF 39 r.tail).1 : Int) 0 0 0 false (S (Pl.encs (Pl.quotF 39 r.tail).2.1))) (by simp [results, Tryf.results44, go_sem, tokV, S, bx]) rfl ⟨by rw [E.out], Lx.cast (Lx.tok (by assumption) HB.out.ne) (by rw [E.out]) (by rw [E.out]), gr_tok (gr_trans HG.out.1 g') HG.out.2⟩

set_option maxHeartbeats 2000000 in
theorem next_hash1 {W w : World} {B : Nat} {s : ByteArray} {r : List Nat} {cm : Value} {b : Bool} (h : Lx w B s r cm b) (g : W.grownBy w (some B)) (hq : Pl.pk r 0 = 35) (hc : Pl.contsB (Pl.pk r 1) = true) :
    Calls Tryf.prog 44 #[.pointer (some ⟨B, 0, none⟩)] w fun e w' => e = .returned (tokV ((Pl.nextF s.size r).tok.kind : Int) 0 0 (Pl.nextF s.size r).tok.unit (Pl.nextF s.size r).tok.id (S (Pl.nextF s.size r).tok.text)) ∧
      (Lx w' B s (Pl.nextF s.size r).rest cm (b || (Pl.nextF s.size r).opn) ∧ W.grownBy w' (some B)) := by
  have hlt := h.blk.lt
  have he : Pl.pk r 0 ≠ -1 := by omega
  have ke : (Pl.pk r 0 == -1) = false := by simp; omega
  have k34 : (Pl.pk r 0 == 34) = false := by simp; omega
  have k39 : (Pl.pk r 0 == 39) = false := by simp; omega
  have hsp : Pl.isSp (Pl.pk r 0) = false := by rw [hq]; decide
  have k35 : (Pl.pk r 0 == 35) = true := by simp [hq]
  have EI := Lib.hid (show Pl.idB (Pl.pk r 1) (Pl.pk r 2) (Pl.pk r.tail 2) = Pl.idB (Pl.pk r 1) (Pl.pk r 2) (Pl.pk r 3) by rw [Pl.pk_tail])
  have E := Lib.hid (show Pl.nextF s.size r = _ by unfold Pl.nextF; rw [if_neg he, if_neg (by simp [hsp]), if_neg (by omega), if_pos ⟨hq, by simp [hc]⟩])
  clear he hq
  go_enter Tryf.func44, Tryf.ntmps44
  go_wp2_with fail
  obtain ⟨R, hR⟩ : ∃ R, R = w.heap.size := ⟨_, rfl⟩
  rw [← hR]
  obtain ⟨W1, hW1⟩ : ∃ W1, W1 = w.alloc (.cells #[.int .i64 0, .int .i64 0, .int .i64 0, .int .i64 0, .bool false, .string ⟨#[]⟩] 25) := ⟨_, rfl⟩
  rw [← hW1]
  have HB : Hid (Boxed W1 R B) := Lib.hid ⟨by rw [hW1, hR]; exact Blk.new _ _ _, by omega⟩
  have h1 : Lx W1 B s r cm b := by rw [hW1]; exact h.keep (World.grownBy_alloc w _ none) (by simp)
  have HG : Hid (W.grownBy W1 (some B) ∧ W.heap.size ≤ R) := Lib.hid ⟨by rw [hW1]; exact gr_alloc g _, by rw [hR]; exact g.size⟩
  clear hW1 hR h g hlt
  have g1 := gr_refl W1 (some B)
  go_wp2_with (first | (go_at_call 55; refine (peek_at (by assumption) _ (by omega) (by omega)).mono ?_; rintro e w' ⟨rfl, rfl⟩) | (go_at_call 40; refine (isSpace_any _ _).mono ?_; rintro e w' ⟨rfl, rfl⟩) | (go_at_call 59; refine (Continues_any _ _).mono ?_; rintro e w' ⟨rfl, rfl⟩) | (go_at_call 60; refine (escapes_any _ _ _).mono ?_; rintro e w' ⟨rfl, rfl⟩) | (go_at_call 56; refine (take_from (by assumption) (by assumption)).mono ?_; rintro e w' ⟨rfl, h', g'⟩) | (go_at_call 61; refine (identifies_any _ _ _ _).mono ?_; rintro e w' ⟨rfl, rfl⟩) | (go_at_call 48; refine (name_from (by assumption) (by assumption)).mono ?_; rintro e w' ⟨rfl, h', g'⟩; have bx := HB.out.at_ g'))
  refine bodyPost_ret (v := tokV 28 0 0 0 (Pl.idB (Pl.pk r 1) (Pl.pk r 2) (Pl.pk r.tail 2)) (S (Pl.encs (Pl.nameF r.tail).1))) (by simp [results, Tryf.results44, go_sem, tokV, S, bx]) rfl ⟨by rw [E.out, EI.out]; rfl, Lx.cast (Lx.tok (by assumption) HB.out.ne) (by rw [E.out]) (by rw [E.out]), gr_tok (gr_trans HG.out.1 g') HG.out.2⟩

set_option maxHeartbeats 2000000 in
theorem next_hash2 {W w : World} {B : Nat} {s : ByteArray} {r : List Nat} {cm : Value} {b : Bool} (h : Lx w B s r cm b) (g : W.grownBy w (some B)) (hq : Pl.pk r 0 = 35) (hc0 : Pl.contsB (Pl.pk r 1) = false) (hc : Pl.escB (Pl.pk r 1) (Pl.pk r 2) = true) :
    Calls Tryf.prog 44 #[.pointer (some ⟨B, 0, none⟩)] w fun e w' => e = .returned (tokV ((Pl.nextF s.size r).tok.kind : Int) 0 0 (Pl.nextF s.size r).tok.unit (Pl.nextF s.size r).tok.id (S (Pl.nextF s.size r).tok.text)) ∧
      (Lx w' B s (Pl.nextF s.size r).rest cm (b || (Pl.nextF s.size r).opn) ∧ W.grownBy w' (some B)) := by
  have hlt := h.blk.lt
  have he : Pl.pk r 0 ≠ -1 := by omega
  have ke : (Pl.pk r 0 == -1) = false := by simp; omega
  have k34 : (Pl.pk r 0 == 34) = false := by simp; omega
  have k39 : (Pl.pk r 0 == 39) = false := by simp; omega
  have hsp : Pl.isSp (Pl.pk r 0) = false := by rw [hq]; decide
  have k35 : (Pl.pk r 0 == 35) = true := by simp [hq]
  have EI := Lib.hid (show Pl.idB (Pl.pk r 1) (Pl.pk r 2) (Pl.pk r.tail 2) = Pl.idB (Pl.pk r 1) (Pl.pk r 2) (Pl.pk r 3) by rw [Pl.pk_tail])
  have E := Lib.hid (show Pl.nextF s.size r = _ by unfold Pl.nextF; rw [if_neg he, if_neg (by simp [hsp]), if_neg (by omega), if_pos ⟨hq, by simp [hc]⟩])
  clear he hq
  go_enter Tryf.func44, Tryf.ntmps44
  go_wp2_with fail
  obtain ⟨R, hR⟩ : ∃ R, R = w.heap.size := ⟨_, rfl⟩
  rw [← hR]
  obtain ⟨W1, hW1⟩ : ∃ W1, W1 = w.alloc (.cells #[.int .i64 0, .int .i64 0, .int .i64 0, .int .i64 0, .bool false, .string ⟨#[]⟩] 25) := ⟨_, rfl⟩
  rw [← hW1]
  have HB : Hid (Boxed W1 R B) := Lib.hid ⟨by rw [hW1, hR]; exact Blk.new _ _ _, by omega⟩
  have h1 : Lx W1 B s r cm b := by rw [hW1]; exact h.keep (World.grownBy_alloc w _ none) (by simp)
  have HG : Hid (W.grownBy W1 (some B) ∧ W.heap.size ≤ R) := Lib.hid ⟨by rw [hW1]; exact gr_alloc g _, by rw [hR]; exact g.size⟩
  clear hW1 hR h g hlt
  have g1 := gr_refl W1 (some B)
  go_wp2_with (first | (go_at_call 55; refine (peek_at (by assumption) _ (by omega) (by omega)).mono ?_; rintro e w' ⟨rfl, rfl⟩) | (go_at_call 40; refine (isSpace_any _ _).mono ?_; rintro e w' ⟨rfl, rfl⟩) | (go_at_call 59; refine (Continues_any _ _).mono ?_; rintro e w' ⟨rfl, rfl⟩) | (go_at_call 60; refine (escapes_any _ _ _).mono ?_; rintro e w' ⟨rfl, rfl⟩) | (go_at_call 56; refine (take_from (by assumption) (by assumption)).mono ?_; rintro e w' ⟨rfl, h', g'⟩) | (go_at_call 61; refine (identifies_any _ _ _ _).mono ?_; rintro e w' ⟨rfl, rfl⟩) | (go_at_call 48; refine (name_from (by assumption) (by assumption)).mono ?_; rintro e w' ⟨rfl, h', g'⟩; have bx := HB.out.at_ g'))
  refine bodyPost_ret (v := tokV 28 0 0 0 (Pl.idB (Pl.pk r 1) (Pl.pk r 2) (Pl.pk r.tail 2)) (S (Pl.encs (Pl.nameF r.tail).1))) (by simp [results, Tryf.results44, go_sem, tokV, S, bx]) rfl ⟨by rw [E.out, EI.out]; rfl, Lx.cast (Lx.tok (by assumption) HB.out.ne) (by rw [E.out]) (by rw [E.out]), gr_tok (gr_trans HG.out.1 g') HG.out.2⟩

set_option maxHeartbeats 2000000 in
theorem next_num {W w : World} {B : Nat} {s : ByteArray} {r : List Nat} {cm : Value} {b : Bool} (h : Lx w B s r cm b) (g : W.grownBy w (some B)) (he : Pl.pk r 0 ≠ -1) (hsp : Pl.isSp (Pl.pk r 0) = false) (h34 : Pl.pk r 0 ≠ 34) (h39 : Pl.pk r 0 ≠ 39) (h35 : Pl.pk r 0 ≠ 35) (hcn : Pl.cntB (Pl.pk r 0) (Pl.pk r 1) (Pl.pk r 2) = true) :
    Calls Tryf.prog 44 #[.pointer (some ⟨B, 0, none⟩)] w fun e w' => e = .returned (tokV ((Pl.nextF s.size r).tok.kind : Int) 0 0 (Pl.nextF s.size r).tok.unit (Pl.nextF s.size r).tok.id (S (Pl.nextF s.size r).tok.text)) ∧
      (Lx w' B s (Pl.nextF s.size r).rest cm (b || (Pl.nextF s.size r).opn) ∧ W.grownBy w' (some B)) := by
  have hlt := h.blk.lt
  have ke : (Pl.pk r 0 == -1) = false := by simp [he]
  have k34 : (Pl.pk r 0 == 34) = false := by simp [h34]
  have k39 : (Pl.pk r 0 == 39) = false := by simp [h39]
  have k35 : (Pl.pk r 0 == 35) = false := by simp [h35]

  have E := Lib.hid (show Pl.nextF s.size r = _ by unfold Pl.nextF; rw [if_neg he, if_neg (by simp [hsp]), if_neg (by omega), if_neg (fun x => h35 x.1), if_pos hcn])
  clear he h34 h39
  clear h35
  go_enter Tryf.func44, Tryf.ntmps44
  go_wp2_with fail
  obtain ⟨R, hR⟩ : ∃ R, R = w.heap.size := ⟨_, rfl⟩
  rw [← hR]
  obtain ⟨W1, hW1⟩ : ∃ W1, W1 = w.alloc (.cells #[.int .i64 0, .int .i64 0, .int .i64 0, .int .i64 0, .bool false, .string ⟨#[]⟩] 25) := ⟨_, rfl⟩
  rw [← hW1]
  have HB : Hid (Boxed W1 R B) := Lib.hid ⟨by rw [hW1, hR]; exact Blk.new _ _ _, by omega⟩
  have h1 : Lx W1 B s r cm b := by rw [hW1]; exact h.keep (World.grownBy_alloc w _ none) (by simp)
  have HG : Hid (W.grownBy W1 (some B) ∧ W.heap.size ≤ R) := Lib.hid ⟨by rw [hW1]; exact gr_alloc g _, by rw [hR]; exact g.size⟩
  clear hW1 hR h g hlt
  have g1 := gr_refl W1 (some B)
  go_wp2_with (first | (go_at_call 55; refine (peek_at (by assumption) _ (by omega) (by omega)).mono ?_; rintro e w' ⟨rfl, rfl⟩) | (go_at_call 40; refine (isSpace_any _ _).mono ?_; rintro e w' ⟨rfl, rfl⟩) | (go_at_call 59; refine (Continues_any _ _).mono ?_; rintro e w' ⟨rfl, rfl⟩) | (go_at_call 60; refine (escapes_any _ _ _).mono ?_; rintro e w' ⟨rfl, rfl⟩) | (go_at_call 62; refine (counts_any _ _ _ _).mono ?_; rintro e w' ⟨rfl, rfl⟩) | (go_at_call 63; refine (numeric_from (by assumption) (by assumption)).mono ?_; rintro e w' ⟨rfl, h', g'⟩; have bx := HB.out.at_ g'))
  refine bodyPost_ret (v := tokV ((Pl.numericF s.size r).tok.kind : Int) 0 0 (Pl.numericF s.size r).tok.unit false (S [])) (by simp [results, Tryf.results44, go_sem, tokV, S, bx]) rfl ⟨by rw [E.out]; rw [numericF_id, numericF_text], Lx.cast (Lx.tok (by assumption) HB.out.ne) (by rw [E.out]) (by rw [E.out]), gr_tok (gr_trans HG.out.1 g') HG.out.2⟩

set_option maxHeartbeats 2000000 in
theorem next_cdc {W w : World} {B : Nat} {s : ByteArray} {r : List Nat} {cm : Value} {b : Bool} (h : Lx w B s r cm b) (g : W.grownBy w (some B)) (he : Pl.pk r 0 ≠ -1) (hsp : Pl.isSp (Pl.pk r 0) = false) (h34 : Pl.pk r 0 ≠ 34) (h39 : Pl.pk r 0 ≠ 39) (h45 : Pl.pk r 0 = 45) (h1 : Pl.pk r 1 = 45) (h2 : Pl.pk r 2 = 62) :
    Calls Tryf.prog 44 #[.pointer (some ⟨B, 0, none⟩)] w fun e w' => e = .returned (tokV ((Pl.nextF s.size r).tok.kind : Int) 0 0 (Pl.nextF s.size r).tok.unit (Pl.nextF s.size r).tok.id (S (Pl.nextF s.size r).tok.text)) ∧
      (Lx w' B s (Pl.nextF s.size r).rest cm (b || (Pl.nextF s.size r).opn) ∧ W.grownBy w' (some B)) := by
  have hlt := h.blk.lt
  have ke : (Pl.pk r 0 == -1) = false := by simp [he]
  have k34 : (Pl.pk r 0 == 34) = false := by simp [h34]
  have k39 : (Pl.pk r 0 == 39) = false := by simp [h39]
  have k35 : (Pl.pk r 0 == 35) = false := by rw [h45]; decide
  have k45 : (Pl.pk r 0 == 45) = true := by simp [h45]
  have p1_45 : (Pl.pk r 1 == 45) = true := by simp [h1]
  have p2_62 : (Pl.pk r 2 == 62) = true := by simp [h2]
  have hcn : Pl.cntB (Pl.pk r 0) (Pl.pk r 1) (Pl.pk r 2) = false := by rw [h45, h1, h2]; decide
  have HP := Lib.hid (posN_three h.le (by omega) (by omega) (by omega))
  have hpr : (Pl.posN s.size r : Int) ≤ 1099511627776 := by have := posN_le s.size r; have := h.small; omega
  have E := Lib.hid (show Pl.nextF s.size r = _ by unfold Pl.nextF; rw [if_neg he, if_neg (by simp [hsp]), if_neg (by omega), if_neg (by omega), if_neg (by simp [hcn]), if_pos ⟨h45, h1, h2⟩])
  clear he h34 h39 h45 h1 h2
  go_enter Tryf.func44, Tryf.ntmps44
  go_wp2_with fail
  obtain ⟨R, hR⟩ : ∃ R, R = w.heap.size := ⟨_, rfl⟩
  rw [← hR]
  obtain ⟨W1, hW1⟩ : ∃ W1, W1 = w.alloc (.cells #[.int .i64 0, .int .i64 0, .int .i64 0, .int .i64 0, .bool false, .string ⟨#[]⟩] 25) := ⟨_, rfl⟩
  rw [← hW1]
  have HB : Hid (Boxed W1 R B) := Lib.hid ⟨by rw [hW1, hR]; exact Blk.new _ _ _, by omega⟩
  have h1 : Lx W1 B s r cm b := by rw [hW1]; exact h.keep (World.grownBy_alloc w _ none) (by simp)
  have HG : Hid (W.grownBy W1 (some B) ∧ W.heap.size ≤ R) := Lib.hid ⟨by rw [hW1]; exact gr_alloc g _, by rw [hR]; exact g.size⟩
  clear hW1 hR h g hlt
  have g1 := gr_refl W1 (some B)
  have c1 := h1.cell1
  have f1 := h1.free 1
  have bx := HB.out.at_ (gr_put g1 1 (.int .i64 ((Pl.posN s.size r : Int) + 3)))
  go_wp2_with (first | (go_at_call 55; refine (peek_at (by assumption) _ (by omega) (by omega)).mono ?_; rintro e w' ⟨rfl, rfl⟩) | (go_at_call 40; refine (isSpace_any _ _).mono ?_; rintro e w' ⟨rfl, rfl⟩) | (go_at_call 59; refine (Continues_any _ _).mono ?_; rintro e w' ⟨rfl, rfl⟩) | (go_at_call 60; refine (escapes_any _ _ _).mono ?_; rintro e w' ⟨rfl, rfl⟩) | (go_at_call 62; refine (counts_any _ _ _ _).mono ?_; rintro e w' ⟨rfl, rfl⟩))
  rw [HP.out] at bx ⊢
  refine bodyPost_ret (v := tokV 4 0 0 0 false (S [])) (by simp [results, Tryf.results44, go_sem, tokV, S, bx]) rfl ⟨by rw [E.out]; rfl, Lx.cast (Lx.tok (h1.dropped 3) HB.out.ne) (by rw [E.out]) (by rw [E.out]; simp), gr_tok (gr_trans HG.out.1 (gr_put g1 _ _)) HG.out.2⟩

set_option maxHeartbeats 2000000 in
theorem next_named0 {W w : World} {B : Nat} {s : ByteArray} {r : List Nat} {cm : Value} {b : Bool} (h : Lx w B s r cm b) (g : W.grownBy w (some B)) (he : Pl.pk r 0 ≠ -1) (hsp : Pl.isSp (Pl.pk r 0) = false) (h34 : Pl.pk r 0 ≠ 34) (h39 : Pl.pk r 0 ≠ 39) (h35 : Pl.pk r 0 ≠ 35) (hcn : Pl.cntB (Pl.pk r 0) (Pl.pk r 1) (Pl.pk r 2) = false) (h45 : Pl.pk r 0 ≠ 45) (hid : Pl.idB (Pl.pk r 0) (Pl.pk r 1) (Pl.pk r 2) = true) :
    Calls Tryf.prog 44 #[.pointer (some ⟨B, 0, none⟩)] w fun e w' => e = .returned (tokV ((Pl.nextF s.size r).tok.kind : Int) 0 0 (Pl.nextF s.size r).tok.unit (Pl.nextF s.size r).tok.id (S (Pl.nextF s.size r).tok.text)) ∧
      (Lx w' B s (Pl.nextF s.size r).rest cm (b || (Pl.nextF s.size r).opn) ∧ W.grownBy w' (some B)) := by
  have hlt := h.blk.lt
  have ke : (Pl.pk r 0 == -1) = false := by simp [he]
  have k34 : (Pl.pk r 0 == 34) = false := by simp [h34]
  have k39 : (Pl.pk r 0 == 39) = false := by simp [h39]
  have k35 : (Pl.pk r 0 == 35) = false := by simp [h35]
  have k45 : (Pl.pk r 0 == 45) = false := by simp [h45]

  have E := Lib.hid (show Pl.nextF s.size r = _ by unfold Pl.nextF; rw [if_neg he, if_neg (by simp [hsp]), if_neg (by omega), if_neg (fun x => h35 x.1), if_neg (by simp [hcn]), if_neg (fun x => h45 x.1), if_pos hid])
  clear he h34 h39
  clear h35
  clear h45
  go_enter Tryf.func44, Tryf.ntmps44
  go_wp2_with fail
  obtain ⟨R, hR⟩ : ∃ R, R = w.heap.size := ⟨_, rfl⟩
  rw [← hR]
  obtain ⟨W1, hW1⟩ : ∃ W1, W1 = w.alloc (.cells #[.int .i64 0, .int .i64 0, .int .i64 0, .int .i64 0, .bool false, .string ⟨#[]⟩] 25) := ⟨_, rfl⟩
  rw [← hW1]
  have HB : Hid (Boxed W1 R B) := Lib.hid ⟨by rw [hW1, hR]; exact Blk.new _ _ _, by omega⟩
  have h1 : Lx W1 B s r cm b := by rw [hW1]; exact h.keep (World.grownBy_alloc w _ none) (by simp)
  have HG : Hid (W.grownBy W1 (some B) ∧ W.heap.size ≤ R) := Lib.hid ⟨by rw [hW1]; exact gr_alloc g _, by rw [hR]; exact g.size⟩
  clear hW1 hR h g hlt
  have g1 := gr_refl W1 (some B)
  go_wp2_with (first | (go_at_call 55; refine (peek_at (by assumption) _ (by omega) (by omega)).mono ?_; rintro e w' ⟨rfl, rfl⟩) | (go_at_call 40; refine (isSpace_any _ _).mono ?_; rintro e w' ⟨rfl, rfl⟩) | (go_at_call 59; refine (Continues_any _ _).mono ?_; rintro e w' ⟨rfl, rfl⟩) | (go_at_call 60; refine (escapes_any _ _ _).mono ?_; rintro e w' ⟨rfl, rfl⟩) | (go_at_call 62; refine (counts_any _ _ _ _).mono ?_; rintro e w' ⟨rfl, rfl⟩) | (go_at_call 61; refine (identifies_any _ _ _ _).mono ?_; rintro e w' ⟨rfl, rfl⟩) | (go_at_call 64; refine (named_from (by assumption) (by assumption)).mono ?_; rintro e w' ⟨rfl, h', g'⟩; have bx := HB.out.at_ g'))
  refine bodyPost_ret (v := tokV ((Pl.namedF s.size r).tok.kind : Int) 0 0 0 false (S (Pl.namedF s.size r).tok.text)) (by simp [results, Tryf.results44, go_sem, tokV, S, bx]) rfl ⟨by rw [E.out]; rw [namedF_tid, namedF_unit], Lx.cast (Lx.tok (by assumption) HB.out.ne) (by rw [E.out]) (by rw [E.out]), gr_tok (gr_trans HG.out.1 g') HG.out.2⟩

set_option maxHeartbeats 2000000 in
theorem next_named1 {W w : World} {B : Nat} {s : ByteArray} {r : List Nat} {cm : Value} {b : Bool} (h : Lx w B s r cm b) (g : W.grownBy w (some B)) (he : Pl.pk r 0 ≠ -1) (hsp : Pl.isSp (Pl.pk r 0) = false) (h34 : Pl.pk r 0 ≠ 34) (h39 : Pl.pk r 0 ≠ 39) (h35 : Pl.pk r 0 ≠ 35) (hcn : Pl.cntB (Pl.pk r 0) (Pl.pk r 1) (Pl.pk r 2) = false) (h45 : Pl.pk r 0 = 45) (h1 : Pl.pk r 1 ≠ 45) (hid : Pl.idB (Pl.pk r 0) (Pl.pk r 1) (Pl.pk r 2) = true) :
    Calls Tryf.prog 44 #[.pointer (some ⟨B, 0, none⟩)] w fun e w' => e = .returned (tokV ((Pl.nextF s.size r).tok.kind : Int) 0 0 (Pl.nextF s.size r).tok.unit (Pl.nextF s.size r).tok.id (S (Pl.nextF s.size r).tok.text)) ∧
      (Lx w' B s (Pl.nextF s.size r).rest cm (b || (Pl.nextF s.size r).opn) ∧ W.grownBy w' (some B)) := by
  have hlt := h.blk.lt
  have ke : (Pl.pk r 0 == -1) = false := by simp [he]
  have k34 : (Pl.pk r 0 == 34) = false := by simp [h34]
  have k39 : (Pl.pk r 0 == 39) = false := by simp [h39]
  have k35 : (Pl.pk r 0 == 35) = false := by simp [h35]
  have k45 : (Pl.pk r 0 == 45) = true := by simp [h45]
  have p1_45 : (Pl.pk r 1 == 45) = false := by simp [h1]

  have E := Lib.hid (show Pl.nextF s.size r = _ by unfold Pl.nextF; rw [if_neg he, if_neg (by simp [hsp]), if_neg (by omega), if_neg (fun x => h35 x.1), if_neg (by simp [hcn]), if_neg (fun x => h1 x.2.1), if_pos hid])
  clear he h34 h39
  clear h35
  clear h45 h1
  go_enter Tryf.func44, Tryf.ntmps44
  go_wp2_with fail
  obtain ⟨R, hR⟩ : ∃ R, R = w.heap.size := ⟨_, rfl⟩
  rw [← hR]
  obtain ⟨W1, hW1⟩ : ∃ W1, W1 = w.alloc (.cells #[.int .i64 0, .int .i64 0, .int .i64 0, .int .i64 0, .bool false, .string ⟨#[]⟩] 25) := ⟨_, rfl⟩
  rw [← hW1]
  have HB : Hid (Boxed W1 R B) := Lib.hid ⟨by rw [hW1, hR]; exact Blk.new _ _ _, by omega⟩
  have h1 : Lx W1 B s r cm b := by rw [hW1]; exact h.keep (World.grownBy_alloc w _ none) (by simp)
  have HG : Hid (W.grownBy W1 (some B) ∧ W.heap.size ≤ R) := Lib.hid ⟨by rw [hW1]; exact gr_alloc g _, by rw [hR]; exact g.size⟩
  clear hW1 hR h g hlt
  have g1 := gr_refl W1 (some B)
  go_wp2_with (first | (go_at_call 55; refine (peek_at (by assumption) _ (by omega) (by omega)).mono ?_; rintro e w' ⟨rfl, rfl⟩) | (go_at_call 40; refine (isSpace_any _ _).mono ?_; rintro e w' ⟨rfl, rfl⟩) | (go_at_call 59; refine (Continues_any _ _).mono ?_; rintro e w' ⟨rfl, rfl⟩) | (go_at_call 60; refine (escapes_any _ _ _).mono ?_; rintro e w' ⟨rfl, rfl⟩) | (go_at_call 62; refine (counts_any _ _ _ _).mono ?_; rintro e w' ⟨rfl, rfl⟩) | (go_at_call 61; refine (identifies_any _ _ _ _).mono ?_; rintro e w' ⟨rfl, rfl⟩) | (go_at_call 64; refine (named_from (by assumption) (by assumption)).mono ?_; rintro e w' ⟨rfl, h', g'⟩; have bx := HB.out.at_ g'))
  refine bodyPost_ret (v := tokV ((Pl.namedF s.size r).tok.kind : Int) 0 0 0 false (S (Pl.namedF s.size r).tok.text)) (by simp [results, Tryf.results44, go_sem, tokV, S, bx]) rfl ⟨by rw [E.out]; rw [namedF_tid, namedF_unit], Lx.cast (Lx.tok (by assumption) HB.out.ne) (by rw [E.out]) (by rw [E.out]), gr_tok (gr_trans HG.out.1 g') HG.out.2⟩

set_option maxHeartbeats 2000000 in
theorem next_named2 {W w : World} {B : Nat} {s : ByteArray} {r : List Nat} {cm : Value} {b : Bool} (h : Lx w B s r cm b) (g : W.grownBy w (some B)) (he : Pl.pk r 0 ≠ -1) (hsp : Pl.isSp (Pl.pk r 0) = false) (h34 : Pl.pk r 0 ≠ 34) (h39 : Pl.pk r 0 ≠ 39) (h35 : Pl.pk r 0 ≠ 35) (hcn : Pl.cntB (Pl.pk r 0) (Pl.pk r 1) (Pl.pk r 2) = false) (h45 : Pl.pk r 0 = 45) (h1 : Pl.pk r 1 = 45) (h2 : Pl.pk r 2 ≠ 62) (hid : Pl.idB (Pl.pk r 0) (Pl.pk r 1) (Pl.pk r 2) = true) :
    Calls Tryf.prog 44 #[.pointer (some ⟨B, 0, none⟩)] w fun e w' => e = .returned (tokV ((Pl.nextF s.size r).tok.kind : Int) 0 0 (Pl.nextF s.size r).tok.unit (Pl.nextF s.size r).tok.id (S (Pl.nextF s.size r).tok.text)) ∧
      (Lx w' B s (Pl.nextF s.size r).rest cm (b || (Pl.nextF s.size r).opn) ∧ W.grownBy w' (some B)) := by
  have hlt := h.blk.lt
  have ke : (Pl.pk r 0 == -1) = false := by simp [he]
  have k34 : (Pl.pk r 0 == 34) = false := by simp [h34]
  have k39 : (Pl.pk r 0 == 39) = false := by simp [h39]
  have k35 : (Pl.pk r 0 == 35) = false := by simp [h35]
  have k45 : (Pl.pk r 0 == 45) = true := by simp [h45]
  have p1_45 : (Pl.pk r 1 == 45) = true := by simp [h1]
  have p2_62 : (Pl.pk r 2 == 62) = false := by simp [h2]

  have E := Lib.hid (show Pl.nextF s.size r = _ by unfold Pl.nextF; rw [if_neg he, if_neg (by simp [hsp]), if_neg (by omega), if_neg (fun x => h35 x.1), if_neg (by simp [hcn]), if_neg (fun x => h2 x.2.2), if_pos hid])
  clear he h34 h39
  clear h35
  clear h45 h1 h2
  go_enter Tryf.func44, Tryf.ntmps44
  go_wp2_with fail
  obtain ⟨R, hR⟩ : ∃ R, R = w.heap.size := ⟨_, rfl⟩
  rw [← hR]
  obtain ⟨W1, hW1⟩ : ∃ W1, W1 = w.alloc (.cells #[.int .i64 0, .int .i64 0, .int .i64 0, .int .i64 0, .bool false, .string ⟨#[]⟩] 25) := ⟨_, rfl⟩
  rw [← hW1]
  have HB : Hid (Boxed W1 R B) := Lib.hid ⟨by rw [hW1, hR]; exact Blk.new _ _ _, by omega⟩
  have h1 : Lx W1 B s r cm b := by rw [hW1]; exact h.keep (World.grownBy_alloc w _ none) (by simp)
  have HG : Hid (W.grownBy W1 (some B) ∧ W.heap.size ≤ R) := Lib.hid ⟨by rw [hW1]; exact gr_alloc g _, by rw [hR]; exact g.size⟩
  clear hW1 hR h g hlt
  have g1 := gr_refl W1 (some B)
  go_wp2_with (first | (go_at_call 55; refine (peek_at (by assumption) _ (by omega) (by omega)).mono ?_; rintro e w' ⟨rfl, rfl⟩) | (go_at_call 40; refine (isSpace_any _ _).mono ?_; rintro e w' ⟨rfl, rfl⟩) | (go_at_call 59; refine (Continues_any _ _).mono ?_; rintro e w' ⟨rfl, rfl⟩) | (go_at_call 60; refine (escapes_any _ _ _).mono ?_; rintro e w' ⟨rfl, rfl⟩) | (go_at_call 62; refine (counts_any _ _ _ _).mono ?_; rintro e w' ⟨rfl, rfl⟩) | (go_at_call 61; refine (identifies_any _ _ _ _).mono ?_; rintro e w' ⟨rfl, rfl⟩) | (go_at_call 64; refine (named_from (by assumption) (by assumption)).mono ?_; rintro e w' ⟨rfl, h', g'⟩; have bx := HB.out.at_ g'))
  refine bodyPost_ret (v := tokV ((Pl.namedF s.size r).tok.kind : Int) 0 0 0 false (S (Pl.namedF s.size r).tok.text)) (by simp [results, Tryf.results44, go_sem, tokV, S, bx]) rfl ⟨by rw [E.out]; rw [namedF_tid, namedF_unit], Lx.cast (Lx.tok (by assumption) HB.out.ne) (by rw [E.out]) (by rw [E.out]), gr_tok (gr_trans HG.out.1 g') HG.out.2⟩

set_option maxHeartbeats 2000000 in
theorem next_cdo {W w : World} {B : Nat} {s : ByteArray} {r : List Nat} {cm : Value} {b : Bool} (h : Lx w B s r cm b) (g : W.grownBy w (some B)) (he : Pl.pk r 0 ≠ -1) (hsp : Pl.isSp (Pl.pk r 0) = false) (h34 : Pl.pk r 0 ≠ 34) (h39 : Pl.pk r 0 ≠ 39) (h60 : Pl.pk r 0 = 60) (h1 : Pl.pk r 1 = 33) (h2 : Pl.pk r 2 = 45) (h3 : Pl.pk r 3 = 45) :
    Calls Tryf.prog 44 #[.pointer (some ⟨B, 0, none⟩)] w fun e w' => e = .returned (tokV ((Pl.nextF s.size r).tok.kind : Int) 0 0 (Pl.nextF s.size r).tok.unit (Pl.nextF s.size r).tok.id (S (Pl.nextF s.size r).tok.text)) ∧
      (Lx w' B s (Pl.nextF s.size r).rest cm (b || (Pl.nextF s.size r).opn) ∧ W.grownBy w' (some B)) := by
  have hlt := h.blk.lt
  have ke : (Pl.pk r 0 == -1) = false := by simp [he]
  have k34 : (Pl.pk r 0 == 34) = false := by simp [h34]
  have k39 : (Pl.pk r 0 == 39) = false := by simp [h39]
  have k35 : (Pl.pk r 0 == 35) = false := by rw [h60]; decide
  have k45 : (Pl.pk r 0 == 45) = false := by rw [h60]; decide
  have k60 : (Pl.pk r 0 == 60) = true := by simp [h60]
  have p1 : (Pl.pk r 1 == 33) = true := by simp [h1]
  have p2 : (Pl.pk r 2 == 45) = true := by simp [h2]
  have p3 : (Pl.pk r 3 == 45) = true := by simp [h3]
  have hcn : Pl.cntB (Pl.pk r 0) (Pl.pk r 1) (Pl.pk r 2) = false := by rw [h60, h1, h2]; decide
  have hid : Pl.idB (Pl.pk r 0) (Pl.pk r 1) (Pl.pk r 2) = false := by rw [h60, h1, h2]; decide
  have HP := Lib.hid (posN_four h.le (by omega) (by omega) (by omega) (by omega))
  have hpr : (Pl.posN s.size r : Int) ≤ 1099511627776 := by have := posN_le s.size r; have := h.small; omega
  have E := Lib.hid (show Pl.nextF s.size r = _ by unfold Pl.nextF; rw [if_neg he, if_neg (by simp [hsp]), if_neg (by omega), if_neg (by omega), if_neg (by simp [hcn]), if_neg (by omega), if_neg (by simp [hid]), if_pos ⟨h60, h1, h2, h3⟩])
  clear he h34 h39 h60 h1 h2 h3
  go_enter Tryf.func44, Tryf.ntmps44
  go_wp2_with fail
  obtain ⟨R, hR⟩ : ∃ R, R = w.heap.size := ⟨_, rfl⟩
  rw [← hR]
  obtain ⟨W1, hW1⟩ : ∃ W1, W1 = w.alloc (.cells #[.int .i64 0, .int .i64 0, .int .i64 0, .int .i64 0, .bool false, .string ⟨#[]⟩] 25) := ⟨_, rfl⟩
  rw [← hW1]
  have HB : Hid (Boxed W1 R B) := Lib.hid ⟨by rw [hW1, hR]; exact Blk.new _ _ _, by omega⟩
  have h1 : Lx W1 B s r cm b := by rw [hW1]; exact h.keep (World.grownBy_alloc w _ none) (by simp)
  have HG : Hid (W.grownBy W1 (some B) ∧ W.heap.size ≤ R) := Lib.hid ⟨by rw [hW1]; exact gr_alloc g _, by rw [hR]; exact g.size⟩
  clear hW1 hR h g hlt
  have g1 := gr_refl W1 (some B)
  have c1 := h1.cell1
  have f1 := h1.free 1
  have bx := HB.out.at_ (gr_put g1 1 (.int .i64 ((Pl.posN s.size r : Int) + 4)))
  go_wp2_with (first | (go_at_call 55; refine (peek_at (by assumption) _ (by omega) (by omega)).mono ?_; rintro e w' ⟨rfl, rfl⟩) | (go_at_call 40; refine (isSpace_any _ _).mono ?_; rintro e w' ⟨rfl, rfl⟩) | (go_at_call 59; refine (Continues_any _ _).mono ?_; rintro e w' ⟨rfl, rfl⟩) | (go_at_call 60; refine (escapes_any _ _ _).mono ?_; rintro e w' ⟨rfl, rfl⟩) | (go_at_call 62; refine (counts_any _ _ _ _).mono ?_; rintro e w' ⟨rfl, rfl⟩) | (go_at_call 61; refine (identifies_any _ _ _ _).mono ?_; rintro e w' ⟨rfl, rfl⟩))
  rw [HP.out] at bx ⊢
  refine bodyPost_ret (v := tokV 5 0 0 0 false (S [])) (by simp [results, Tryf.results44, go_sem, tokV, S, bx]) rfl ⟨by rw [E.out]; rfl, Lx.cast (Lx.tok (h1.dropped 4) HB.out.ne) (by rw [E.out]) (by rw [E.out]; simp), gr_tok (gr_trans HG.out.1 (gr_put g1 _ _)) HG.out.2⟩

set_option maxHeartbeats 2000000 in
theorem next_at {W w : World} {B : Nat} {s : ByteArray} {r : List Nat} {cm : Value} {b : Bool} (h : Lx w B s r cm b) (g : W.grownBy w (some B)) (he : Pl.pk r 0 ≠ -1) (hsp : Pl.isSp (Pl.pk r 0) = false) (h34 : Pl.pk r 0 ≠ 34) (h39 : Pl.pk r 0 ≠ 39) (h64 : Pl.pk r 0 = 64) (hcn : Pl.cntB (Pl.pk r 0) (Pl.pk r 1) (Pl.pk r 2) = false) (hid : Pl.idB (Pl.pk r 0) (Pl.pk r 1) (Pl.pk r 2) = false) (hi : Pl.idB (Pl.pk r 1) (Pl.pk r 2) (Pl.pk r 3) = true) :
    Calls Tryf.prog 44 #[.pointer (some ⟨B, 0, none⟩)] w fun e w' => e = .returned (tokV ((Pl.nextF s.size r).tok.kind : Int) 0 0 (Pl.nextF s.size r).tok.unit (Pl.nextF s.size r).tok.id (S (Pl.nextF s.size r).tok.text)) ∧
      (Lx w' B s (Pl.nextF s.size r).rest cm (b || (Pl.nextF s.size r).opn) ∧ W.grownBy w' (some B)) := by
  have hlt := h.blk.lt
  have ke : (Pl.pk r 0 == -1) = false := by simp [he]
  have k34 : (Pl.pk r 0 == 34) = false := by simp [h34]
  have k39 : (Pl.pk r 0 == 39) = false := by simp [h39]
  have k35 : (Pl.pk r 0 == 35) = false := by rw [h64]; decide
  have k45 : (Pl.pk r 0 == 45) = false := by rw [h64]; decide
  have k60 : (Pl.pk r 0 == 60) = false := by rw [h64]; decide
  have k64 : (Pl.pk r 0 == 64) = true := by simp [h64]

  have E := Lib.hid (show Pl.nextF s.size r = _ by unfold Pl.nextF; rw [if_neg he, if_neg (by simp [hsp]), if_neg (by omega), if_neg (by omega), if_neg (by simp [hcn]), if_neg (by omega), if_neg (by simp [hid]), if_neg (by omega), if_pos ⟨h64, hi⟩])
  clear he h34 h39 h64
  go_enter Tryf.func44, Tryf.ntmps44
  go_wp2_with fail
  obtain ⟨R, hR⟩ : ∃ R, R = w.heap.size := ⟨_, rfl⟩
  rw [← hR]
  obtain ⟨W1, hW1⟩ : ∃ W1, W1 = w.alloc (.cells #[.int .i64 0, .int .i64 0, .int .i64 0, .int .i64 0, .bool false, .string ⟨#[]⟩] 25) := ⟨_, rfl⟩
  rw [← hW1]
  have HB : Hid (Boxed W1 R B) := Lib.hid ⟨by rw [hW1, hR]; exact Blk.new _ _ _, by omega⟩
  have h1 : Lx W1 B s r cm b := by rw [hW1]; exact h.keep (World.grownBy_alloc w _ none) (by simp)
  have HG : Hid (W.grownBy W1 (some B) ∧ W.heap.size ≤ R) := Lib.hid ⟨by rw [hW1]; exact gr_alloc g _, by rw [hR]; exact g.size⟩
  clear hW1 hR h g hlt
  have g1 := gr_refl W1 (some B)
  go_wp2_with (first | (go_at_call 55; refine (peek_at (by assumption) _ (by omega) (by omega)).mono ?_; rintro e w' ⟨rfl, rfl⟩) | (go_at_call 40; refine (isSpace_any _ _).mono ?_; rintro e w' ⟨rfl, rfl⟩) | (go_at_call 59; refine (Continues_any _ _).mono ?_; rintro e w' ⟨rfl, rfl⟩) | (go_at_call 60; refine (escapes_any _ _ _).mono ?_; rintro e w' ⟨rfl, rfl⟩) | (go_at_call 62; refine (counts_any _ _ _ _).mono ?_; rintro e w' ⟨rfl, rfl⟩) | (go_at_call 61; refine (identifies_any _ _ _ _).mono ?_; rintro e w' ⟨rfl, rfl⟩) | (go_at_call 56; refine (take_from (by assumption) (by assumption)).mono ?_; rintro e w' ⟨rfl, h', g'⟩) | (go_at_call 48; refine (name_from (by assumption) (by assumption)).mono ?_; rintro e w' ⟨rfl, h', g'⟩; have bx := HB.out.at_ g'))
  refine bodyPost_ret (v := tokV 1 0 0 0 false (S (Pl.encs (Pl.nameF r.tail).1))) (by simp [results, Tryf.results44, go_sem, tokV, S, bx]) rfl ⟨by rw [E.out]; rfl, Lx.cast (Lx.tok (by assumption) HB.out.ne) (by rw [E.out]) (by rw [E.out]), gr_tok (gr_trans HG.out.1 g') HG.out.2⟩

set_option maxHeartbeats 2000000 in
theorem next_sign {W w : World} {B : Nat} {s : ByteArray} {r : List Nat} {cm : Value} {b : Bool} (h : Lx w B s r cm b) (g : W.grownBy w (some B)) (he : Pl.pk r 0 ≠ -1) (hsp : Pl.isSp (Pl.pk r 0) = false) (h34 : Pl.pk r 0 ≠ 34) (h39 : Pl.pk r 0 ≠ 39) (h35 : Pl.pk r 0 ≠ 35) (h45 : Pl.pk r 0 ≠ 45) (h60 : Pl.pk r 0 ≠ 60) (h64 : Pl.pk r 0 ≠ 64) (hcn : Pl.cntB (Pl.pk r 0) (Pl.pk r 1) (Pl.pk r 2) = false) (hid : Pl.idB (Pl.pk r 0) (Pl.pk r 1) (Pl.pk r 2) = false) :
    Calls Tryf.prog 44 #[.pointer (some ⟨B, 0, none⟩)] w fun e w' => e = .returned (tokV ((Pl.nextF s.size r).tok.kind : Int) 0 0 (Pl.nextF s.size r).tok.unit (Pl.nextF s.size r).tok.id (S (Pl.nextF s.size r).tok.text)) ∧
      (Lx w' B s (Pl.nextF s.size r).rest cm (b || (Pl.nextF s.size r).opn) ∧ W.grownBy w' (some B)) := by
  have hlt := h.blk.lt
  have ke : (Pl.pk r 0 == -1) = false := by simp [he]
  have k34 : (Pl.pk r 0 == 34) = false := by simp [h34]
  have k39 : (Pl.pk r 0 == 39) = false := by simp [h39]
  have k35 : (Pl.pk r 0 == 35) = false := by simp; omega
  have k45 : (Pl.pk r 0 == 45) = false := by simp; omega
  have k60 : (Pl.pk r 0 == 60) = false := by simp; omega
  have k64 : (Pl.pk r 0 == 64) = false := by simp; omega

  have E := Lib.hid (show Pl.nextF s.size r = _ by unfold Pl.nextF; rw [if_neg he, if_neg (by simp [hsp]), if_neg (by omega), if_neg (by omega), if_neg (by simp [hcn]), if_neg (by omega), if_neg (by simp [hid]), if_neg (by omega), if_neg (by omega)])
  clear he h34 h39 h35 h45 h60 h64
  go_enter Tryf.func44, Tryf.ntmps44
  go_wp2_with fail
  obtain ⟨R, hR⟩ : ∃ R, R = w.heap.size := ⟨_, rfl⟩
  rw [← hR]
  obtain ⟨W1, hW1⟩ : ∃ W1, W1 = w.alloc (.cells #[.int .i64 0, .int .i64 0, .int .i64 0, .int .i64 0, .bool false, .string ⟨#[]⟩] 25) := ⟨_, rfl⟩
  rw [← hW1]
  have HB : Hid (Boxed W1 R B) := Lib.hid ⟨by rw [hW1, hR]; exact Blk.new _ _ _, by omega⟩
  have h1 : Lx W1 B s r cm b := by rw [hW1]; exact h.keep (World.grownBy_alloc w _ none) (by simp)
  have HG : Hid (W.grownBy W1 (some B) ∧ W.heap.size ≤ R) := Lib.hid ⟨by rw [hW1]; exact gr_alloc g _, by rw [hR]; exact g.size⟩
  clear hW1 hR h g hlt
  have g1 := gr_refl W1 (some B)
  go_wp2_with (first | (go_at_call 55; refine (peek_at (by assumption) _ (by omega) (by omega)).mono ?_; rintro e w' ⟨rfl, rfl⟩) | (go_at_call 40; refine (isSpace_any _ _).mono ?_; rintro e w' ⟨rfl, rfl⟩) | (go_at_call 59; refine (Continues_any _ _).mono ?_; rintro e w' ⟨rfl, rfl⟩) | (go_at_call 60; refine (escapes_any _ _ _).mono ?_; rintro e w' ⟨rfl, rfl⟩) | (go_at_call 62; refine (counts_any _ _ _ _).mono ?_; rintro e w' ⟨rfl, rfl⟩) | (go_at_call 61; refine (identifies_any _ _ _ _).mono ?_; rintro e w' ⟨rfl, rfl⟩) | (go_at_call 65; refine (sign_from (by assumption) (by assumption)).mono ?_; rintro e w' ⟨rfl, h', g'⟩; have bx := HB.out.at_ g'))
  refine bodyPost_ret (v := tokV (Pl.signK (Pl.pk r 0) : Int) 0 0 0 false (S [])) (by simp [results, Tryf.results44, go_sem, tokV, S, bx]) rfl ⟨by rw [E.out], Lx.cast (Lx.tok (by assumption) HB.out.ne) (by rw [E.out]) (by rw [E.out]; simp), gr_tok (gr_trans HG.out.1 g') HG.out.2⟩

set_option maxHeartbeats 2000000 in
theorem next_sign35 {W w : World} {B : Nat} {s : ByteArray} {r : List Nat} {cm : Value} {b : Bool} (h : Lx w B s r cm b) (g : W.grownBy w (some B)) (he : Pl.pk r 0 ≠ -1) (hsp : Pl.isSp (Pl.pk r 0) = false) (h34 : Pl.pk r 0 ≠ 34) (h39 : Pl.pk r 0 ≠ 39) (h35 : Pl.pk r 0 = 35) (hc : Pl.contsB (Pl.pk r 1) = false) (hx : Pl.escB (Pl.pk r 1) (Pl.pk r 2) = false) (hcn : Pl.cntB (Pl.pk r 0) (Pl.pk r 1) (Pl.pk r 2) = false) (hid : Pl.idB (Pl.pk r 0) (Pl.pk r 1) (Pl.pk r 2) = false) :
    Calls Tryf.prog 44 #[.pointer (some ⟨B, 0, none⟩)] w fun e w' => e = .returned (tokV ((Pl.nextF s.size r).tok.kind : Int) 0 0 (Pl.nextF s.size r).tok.unit (Pl.nextF s.size r).tok.id (S (Pl.nextF s.size r).tok.text)) ∧
      (Lx w' B s (Pl.nextF s.size r).rest cm (b || (Pl.nextF s.size r).opn) ∧ W.grownBy w' (some B)) := by
  have hlt := h.blk.lt
  have ke : (Pl.pk r 0 == -1) = false := by simp [he]
  have k34 : (Pl.pk r 0 == 34) = false := by simp [h34]
  have k39 : (Pl.pk r 0 == 39) = false := by simp [h39]
  have k35 : (Pl.pk r 0 == 35) = true := by simp; omega
  have k45 : (Pl.pk r 0 == 45) = false := by simp; omega
  have k60 : (Pl.pk r 0 == 60) = false := by simp; omega
  have k64 : (Pl.pk r 0 == 64) = false := by simp; omega

  have E := Lib.hid (show Pl.nextF s.size r = _ by unfold Pl.nextF; rw [if_neg he, if_neg (by simp [hsp]), if_neg (by omega), if_neg (by simp [hc, hx]), if_neg (by simp [hcn]), if_neg (by omega), if_neg (by simp [hid]), if_neg (by omega), if_neg (by omega)])
  clear he h34 h39 h35
  go_enter Tryf.func44, Tryf.ntmps44
  go_wp2_with fail
  obtain ⟨R, hR⟩ : ∃ R, R = w.heap.size := ⟨_, rfl⟩
  rw [← hR]
  obtain ⟨W1, hW1⟩ : ∃ W1, W1 = w.alloc (.cells #[.int .i64 0, .int .i64 0, .int .i64 0, .int .i64 0, .bool false, .string ⟨#[]⟩] 25) := ⟨_, rfl⟩
  rw [← hW1]
  have HB : Hid (Boxed W1 R B) := Lib.hid ⟨by rw [hW1, hR]; exact Blk.new _ _ _, by omega⟩
  have h1 : Lx W1 B s r cm b := by rw [hW1]; exact h.keep (World.grownBy_alloc w _ none) (by simp)
  have HG : Hid (W.grownBy W1 (some B) ∧ W.heap.size ≤ R) := Lib.hid ⟨by rw [hW1]; exact gr_alloc g _, by rw [hR]; exact g.size⟩
  clear hW1 hR h g hlt
  have g1 := gr_refl W1 (some B)
  go_wp2_with (first | (go_at_call 55; refine (peek_at (by assumption) _ (by omega) (by omega)).mono ?_; rintro e w' ⟨rfl, rfl⟩) | (go_at_call 40; refine (isSpace_any _ _).mono ?_; rintro e w' ⟨rfl, rfl⟩) | (go_at_call 59; refine (Continues_any _ _).mono ?_; rintro e w' ⟨rfl, rfl⟩) | (go_at_call 60; refine (escapes_any _ _ _).mono ?_; rintro e w' ⟨rfl, rfl⟩) | (go_at_call 62; refine (counts_any _ _ _ _).mono ?_; rintro e w' ⟨rfl, rfl⟩) | (go_at_call 61; refine (identifies_any _ _ _ _).mono ?_; rintro e w' ⟨rfl, rfl⟩) | (go_at_call 65; refine (sign_from (by assumption) (by assumption)).mono ?_; rintro e w' ⟨rfl, h', g'⟩; have bx := HB.out.at_ g'))
  refine bodyPost_ret (v := tokV (Pl.signK (Pl.pk r 0) : Int) 0 0 0 false (S [])) (by simp [results, Tryf.results44, go_sem, tokV, S, bx]) rfl ⟨by rw [E.out], Lx.cast (Lx.tok (by assumption) HB.out.ne) (by rw [E.out]) (by rw [E.out]; simp), gr_tok (gr_trans HG.out.1 g') HG.out.2⟩

set_option maxHeartbeats 2000000 in
theorem next_sign45a {W w : World} {B : Nat} {s : ByteArray} {r : List Nat} {cm : Value} {b : Bool} (h : Lx w B s r cm b) (g : W.grownBy w (some B)) (he : Pl.pk r 0 ≠ -1) (hsp : Pl.isSp (Pl.pk r 0) = false) (h34 : Pl.pk r 0 ≠ 34) (h39 : Pl.pk r 0 ≠ 39) (h45 : Pl.pk r 0 = 45) (h1 : Pl.pk r 1 ≠ 45) (hcn : Pl.cntB (Pl.pk r 0) (Pl.pk r 1) (Pl.pk r 2) = false) (hid : Pl.idB (Pl.pk r 0) (Pl.pk r 1) (Pl.pk r 2) = false) :
    Calls Tryf.prog 44 #[.pointer (some ⟨B, 0, none⟩)] w fun e w' => e = .returned (tokV ((Pl.nextF s.size r).tok.kind : Int) 0 0 (Pl.nextF s.size r).tok.unit (Pl.nextF s.size r).tok.id (S (Pl.nextF s.size r).tok.text)) ∧
      (Lx w' B s (Pl.nextF s.size r).rest cm (b || (Pl.nextF s.size r).opn) ∧ W.grownBy w' (some B)) := by
  have hlt := h.blk.lt
  have ke : (Pl.pk r 0 == -1) = false := by simp [he]
  have k34 : (Pl.pk r 0 == 34) = false := by simp [h34]
  have k39 : (Pl.pk r 0 == 39) = false := by simp [h39]
  have k35 : (Pl.pk r 0 == 35) = false := by simp; omega
  have k45 : (Pl.pk r 0 == 45) = true := by simp; omega
  have k60 : (Pl.pk r 0 == 60) = false := by simp; omega
  have k64 : (Pl.pk r 0 == 64) = false := by simp; omega
  have p1_45 : (Pl.pk r 1 == 45) = false := by simp [h1]

  have E := Lib.hid (show Pl.nextF s.size r = _ by unfold Pl.nextF; rw [if_neg he, if_neg (by simp [hsp]), if_neg (by omega), if_neg (by omega), if_neg (by simp [hcn]), if_neg (by omega), if_neg (by simp [hid]), if_neg (by omega), if_neg (by omega)])
  clear he h34 h39 h45 h1
  go_enter Tryf.func44, Tryf.ntmps44
  go_wp2_with fail
  obtain ⟨R, hR⟩ : ∃ R, R = w.heap.size := ⟨_, rfl⟩
  rw [← hR]
  obtain ⟨W1, hW1⟩ : ∃ W1, W1 = w.alloc (.cells #[.int .i64 0, .int .i64 0, .int .i64 0, .int .i64 0, .bool false, .string ⟨#[]⟩] 25) := ⟨_, rfl⟩
  rw [← hW1]
  have HB : Hid (Boxed W1 R B) := Lib.hid ⟨by rw [hW1, hR]; exact Blk.new _ _ _, by omega⟩
  have h1 : Lx W1 B s r cm b := by rw [hW1]; exact h.keep (World.grownBy_alloc w _ none) (by simp)
  have HG : Hid (W.grownBy W1 (some B) ∧ W.heap.size ≤ R) := Lib.hid ⟨by rw [hW1]; exact gr_alloc g _, by rw [hR]; exact g.size⟩
  clear hW1 hR h g hlt
  have g1 := gr_refl W1 (some B)
  go_wp2_with (first | (go_at_call 55; refine (peek_at (by assumption) _ (by omega) (by omega)).mono ?_; rintro e w' ⟨rfl, rfl⟩) | (go_at_call 40; refine (isSpace_any _ _).mono ?_; rintro e w' ⟨rfl, rfl⟩) | (go_at_call 59; refine (Continues_any _ _).mono ?_; rintro e w' ⟨rfl, rfl⟩) | (go_at_call 60; refine (escapes_any _ _ _).mono ?_; rintro e w' ⟨rfl, rfl⟩) | (go_at_call 62; refine (counts_any _ _ _ _).mono ?_; rintro e w' ⟨rfl, rfl⟩) | (go_at_call 61; refine (identifies_any _ _ _ _).mono ?_; rintro e w' ⟨rfl, rfl⟩) | (go_at_call 65; refine (sign_from (by assumption) (by assumption)).mono ?_; rintro e w' ⟨rfl, h', g'⟩; have bx := HB.out.at_ g'))
  refine bodyPost_ret (v := tokV (Pl.signK (Pl.pk r 0) : Int) 0 0 0 false (S [])) (by simp [results, Tryf.results44, go_sem, tokV, S, bx]) rfl ⟨by rw [E.out], Lx.cast (Lx.tok (by assumption) HB.out.ne) (by rw [E.out]) (by rw [E.out]; simp), gr_tok (gr_trans HG.out.1 g') HG.out.2⟩

set_option maxHeartbeats 2000000 in
theorem next_sign60_0 {W w : World} {B : Nat} {s : ByteArray} {r : List Nat} {cm : Value} {b : Bool} (h : Lx w B s r cm b) (g : W.grownBy w (some B)) (he : Pl.pk r 0 ≠ -1) (hsp : Pl.isSp (Pl.pk r 0) = false) (h34 : Pl.pk r 0 ≠ 34) (h39 : Pl.pk r 0 ≠ 39) (h60 : Pl.pk r 0 = 60) (h1 : Pl.pk r 1 ≠ 33) (hcn : Pl.cntB (Pl.pk r 0) (Pl.pk r 1) (Pl.pk r 2) = false) (hid : Pl.idB (Pl.pk r 0) (Pl.pk r 1) (Pl.pk r 2) = false) :
    Calls Tryf.prog 44 #[.pointer (some ⟨B, 0, none⟩)] w fun e w' => e = .returned (tokV ((Pl.nextF s.size r).tok.kind : Int) 0 0 (Pl.nextF s.size r).tok.unit (Pl.nextF s.size r).tok.id (S (Pl.nextF s.size r).tok.text)) ∧
      (Lx w' B s (Pl.nextF s.size r).rest cm (b || (Pl.nextF s.size r).opn) ∧ W.grownBy w' (some B)) := by
  have hlt := h.blk.lt
  have ke : (Pl.pk r 0 == -1) = false := by simp [he]
  have k34 : (Pl.pk r 0 == 34) = false := by simp [h34]
  have k39 : (Pl.pk r 0 == 39) = false := by simp [h39]
  have k35 : (Pl.pk r 0 == 35) = false := by simp; omega
  have k45 : (Pl.pk r 0 == 45) = false := by simp; omega
  have k60 : (Pl.pk r 0 == 60) = true := by simp; omega
  have k64 : (Pl.pk r 0 == 64) = false := by simp; omega
  have p1 : (Pl.pk r 1 == 33) = false := by simp [h1]

  have E := Lib.hid (show Pl.nextF s.size r = _ by unfold Pl.nextF; rw [if_neg he, if_neg (by simp [hsp]), if_neg (by omega), if_neg (by omega), if_neg (by simp [hcn]), if_neg (by omega), if_neg (by simp [hid]), if_neg (by omega), if_neg (by omega)])
  clear he h34 h39 h60 h1
  go_enter Tryf.func44, Tryf.ntmps44
  go_wp2_with fail
  obtain ⟨R, hR⟩ : ∃ R, R = w.heap.size := ⟨_, rfl⟩
  rw [← hR]
  obtain ⟨W1, hW1⟩ : ∃ W1, W1 = w.alloc (.cells #[.int .i64 0, .int .i64 0, .int .i64 0, .int .i64 0, .bool false, .string ⟨#[]⟩] 25) := ⟨_, rfl⟩
  rw [← hW1]
  have HB : Hid (Boxed W1 R B) := Lib.hid ⟨by rw [hW1, hR]; exact Blk.new _ _ _, by omega⟩
  have h1 : Lx W1 B s r cm b := by rw [hW1]; exact h.keep (World.grownBy_alloc w _ none) (by simp)
  have HG : Hid (W.grownBy W1 (some B) ∧ W.heap.size ≤ R) := Lib.hid ⟨by rw [hW1]; exact gr_alloc g _, by rw [hR]; exact g.size⟩
  clear hW1 hR h g hlt
  have g1 := gr_refl W1 (some B)
  go_wp2_with (first | (go_at_call 55; refine (peek_at (by assumption) _ (by omega) (by omega)).mono ?_; rintro e w' ⟨rfl, rfl⟩) | (go_at_call 40; refine (isSpace_any _ _).mono ?_; rintro e w' ⟨rfl, rfl⟩) | (go_at_call 59; refine (Continues_any _ _).mono ?_; rintro e w' ⟨rfl, rfl⟩) | (go_at_call 60; refine (escapes_any _ _ _).mono ?_; rintro e w' ⟨rfl, rfl⟩) | (go_at_call 62; refine (counts_any _ _ _ _).mono ?_; rintro e w' ⟨rfl, rfl⟩) | (go_at_call 61; refine (identifies_any _ _ _ _).mono ?_; rintro e w' ⟨rfl, rfl⟩) | (go_at_call 65; refine (sign_from (by assumption) (by assumption)).mono ?_; rintro e w' ⟨rfl, h', g'⟩; have bx := HB.out.at_ g'))
  refine bodyPost_ret (v := tokV (Pl.signK (Pl.pk r 0) : Int) 0 0 0 false (S [])) (by simp [results, Tryf.results44, go_sem, tokV, S, bx]) rfl ⟨by rw [E.out], Lx.cast (Lx.tok (by assumption) HB.out.ne) (by rw [E.out]) (by rw [E.out]; simp), gr_tok (gr_trans HG.out.1 g') HG.out.2⟩

set_option maxHeartbeats 2000000 in
theorem next_sign60_1 {W w : World} {B : Nat} {s : ByteArray} {r : List Nat} {cm : Value} {b : Bool} (h : Lx w B s r cm b) (g : W.grownBy w (some B)) (he : Pl.pk r 0 ≠ -1) (hsp : Pl.isSp (Pl.pk r 0) = false) (h34 : Pl.pk r 0 ≠ 34) (h39 : Pl.pk r 0 ≠ 39) (h60 : Pl.pk r 0 = 60) (h1 : Pl.pk r 1 = 33) (h2 : Pl.pk r 2 ≠ 45) (hcn : Pl.cntB (Pl.pk r 0) (Pl.pk r 1) (Pl.pk r 2) = false) (hid : Pl.idB (Pl.pk r 0) (Pl.pk r 1) (Pl.pk r 2) = false) :
    Calls Tryf.prog 44 #[.pointer (some ⟨B, 0, none⟩)] w fun e w' => e = .returned (tokV ((Pl.nextF s.size r).tok.kind : Int) 0 0 (Pl.nextF s.size r).tok.unit (Pl.nextF s.size r).tok.id (S (Pl.nextF s.size r).tok.text)) ∧
      (Lx w' B s (Pl.nextF s.size r).rest cm (b || (Pl.nextF s.size r).opn) ∧ W.grownBy w' (some B)) := by
  have hlt := h.blk.lt
  have ke : (Pl.pk r 0 == -1) = false := by simp [he]
  have k34 : (Pl.pk r 0 == 34) = false := by simp [h34]
  have k39 : (Pl.pk r 0 == 39) = false := by simp [h39]
  have k35 : (Pl.pk r 0 == 35) = false := by simp; omega
  have k45 : (Pl.pk r 0 == 45) = false := by simp; omega
  have k60 : (Pl.pk r 0 == 60) = true := by simp; omega
  have k64 : (Pl.pk r 0 == 64) = false := by simp; omega
  have p1 : (Pl.pk r 1 == 33) = true := by simp [h1]
  have p2 : (Pl.pk r 2 == 45) = false := by simp [h2]

  have E := Lib.hid (show Pl.nextF s.size r = _ by unfold Pl.nextF; rw [if_neg he, if_neg (by simp [hsp]), if_neg (by omega), if_neg (by omega), if_neg (by simp [hcn]), if_neg (by omega), if_neg (by simp [hid]), if_neg (by omega), if_neg (by omega)])
  clear he h34 h39 h60 h1 h2
  go_enter Tryf.func44, Tryf.ntmps44
  go_wp2_with fail
  obtain ⟨R, hR⟩ : ∃ R, R = w.heap.size := ⟨_, rfl⟩
  rw [← hR]
  obtain ⟨W1, hW1⟩ : ∃ W1, W1 = w.alloc (.cells #[.int .i64 0, .int .i64 0, .int .i64 0, .int .i64 0, .bool false, .string ⟨#[]⟩] 25) := ⟨_, rfl⟩
  rw [← hW1]
  have HB : Hid (Boxed W1 R B) := Lib.hid ⟨by rw [hW1, hR]; exact Blk.new _ _ _, by omega⟩
  have h1 : Lx W1 B s r cm b := by rw [hW1]; exact h.keep (World.grownBy_alloc w _ none) (by simp)
  have HG : Hid (W.grownBy W1 (some B) ∧ W.heap.size ≤ R) := Lib.hid ⟨by rw [hW1]; exact gr_alloc g _, by rw [hR]; exact g.size⟩
  clear hW1 hR h g hlt
  have g1 := gr_refl W1 (some B)
  go_wp2_with (first | (go_at_call 55; refine (peek_at (by assumption) _ (by omega) (by omega)).mono ?_; rintro e w' ⟨rfl, rfl⟩) | (go_at_call 40; refine (isSpace_any _ _).mono ?_; rintro e w' ⟨rfl, rfl⟩) | (go_at_call 59; refine (Continues_any _ _).mono ?_; rintro e w' ⟨rfl, rfl⟩) | (go_at_call 60; refine (escapes_any _ _ _).mono ?_; rintro e w' ⟨rfl, rfl⟩) | (go_at_call 62; refine (counts_any _ _ _ _).mono ?_; rintro e w' ⟨rfl, rfl⟩) | (go_at_call 61; refine (identifies_any _ _ _ _).mono ?_; rintro e w' ⟨rfl, rfl⟩) | (go_at_call 65; refine (sign_from (by assumption) (by assumption)).mono ?_; rintro e w' ⟨rfl, h', g'⟩; have bx := HB.out.at_ g'))
  refine bodyPost_ret (v := tokV (Pl.signK (Pl.pk r 0) : Int) 0 0 0 false (S [])) (by simp [results, Tryf.results44, go_sem, tokV, S, bx]) rfl ⟨by rw [E.out], Lx.cast (Lx.tok (by assumption) HB.out.ne) (by rw [E.out]) (by rw [E.out]; simp), gr_tok (gr_trans HG.out.1 g') HG.out.2⟩

set_option maxHeartbeats 2000000 in
theorem next_sign60_2 {W w : World} {B : Nat} {s : ByteArray} {r : List Nat} {cm : Value} {b : Bool} (h : Lx w B s r cm b) (g : W.grownBy w (some B)) (he : Pl.pk r 0 ≠ -1) (hsp : Pl.isSp (Pl.pk r 0) = false) (h34 : Pl.pk r 0 ≠ 34) (h39 : Pl.pk r 0 ≠ 39) (h60 : Pl.pk r 0 = 60) (h1 : Pl.pk r 1 = 33) (h2 : Pl.pk r 2 = 45) (h3 : Pl.pk r 3 ≠ 45) (hcn : Pl.cntB (Pl.pk r 0) (Pl.pk r 1) (Pl.pk r 2) = false) (hid : Pl.idB (Pl.pk r 0) (Pl.pk r 1) (Pl.pk r 2) = false) :
    Calls Tryf.prog 44 #[.pointer (some ⟨B, 0, none⟩)] w fun e w' => e = .returned (tokV ((Pl.nextF s.size r).tok.kind : Int) 0 0 (Pl.nextF s.size r).tok.unit (Pl.nextF s.size r).tok.id (S (Pl.nextF s.size r).tok.text)) ∧
      (Lx w' B s (Pl.nextF s.size r).rest cm (b || (Pl.nextF s.size r).opn) ∧ W.grownBy w' (some B)) := by
  have hlt := h.blk.lt
  have ke : (Pl.pk r 0 == -1) = false := by simp [he]
  have k34 : (Pl.pk r 0 == 34) = false := by simp [h34]
  have k39 : (Pl.pk r 0 == 39) = false := by simp [h39]
  have k35 : (Pl.pk r 0 == 35) = false := by simp; omega
  have k45 : (Pl.pk r 0 == 45) = false := by simp; omega
  have k60 : (Pl.pk r 0 == 60) = true := by simp; omega
  have k64 : (Pl.pk r 0 == 64) = false := by simp; omega
  have p1 : (Pl.pk r 1 == 33) = true := by simp [h1]
  have p2 : (Pl.pk r 2 == 45) = true := by simp [h2]
  have p3 : (Pl.pk r 3 == 45) = false := by simp [h3]

  have E := Lib.hid (show Pl.nextF s.size r = _ by unfold Pl.nextF; rw [if_neg he, if_neg (by simp [hsp]), if_neg (by omega), if_neg (by omega), if_neg (by simp [hcn]), if_neg (by omega), if_neg (by simp [hid]), if_neg (by omega), if_neg (by omega)])
  clear he h34 h39 h60 h1 h2 h3
  go_enter Tryf.func44, Tryf.ntmps44
  go_wp2_with fail
  obtain ⟨R, hR⟩ : ∃ R, R = w.heap.size := ⟨_, rfl⟩
  rw [← hR]
  obtain ⟨W1, hW1⟩ : ∃ W1, W1 = w.alloc (.cells #[.int .i64 0, .int .i64 0, .int .i64 0, .int .i64 0, .bool false, .string ⟨#[]⟩] 25) := ⟨_, rfl⟩
  rw [← hW1]
  have HB : Hid (Boxed W1 R B) := Lib.hid ⟨by rw [hW1, hR]; exact Blk.new _ _ _, by omega⟩
  have h1 : Lx W1 B s r cm b := by rw [hW1]; exact h.keep (World.grownBy_alloc w _ none) (by simp)
  have HG : Hid (W.grownBy W1 (some B) ∧ W.heap.size ≤ R) := Lib.hid ⟨by rw [hW1]; exact gr_alloc g _, by rw [hR]; exact g.size⟩
  clear hW1 hR h g hlt
  have g1 := gr_refl W1 (some B)
  go_wp2_with (first | (go_at_call 55; refine (peek_at (by assumption) _ (by omega) (by omega)).mono ?_; rintro e w' ⟨rfl, rfl⟩) | (go_at_call 40; refine (isSpace_any _ _).mono ?_; rintro e w' ⟨rfl, rfl⟩) | (go_at_call 59; refine (Continues_any _ _).mono ?_; rintro e w' ⟨rfl, rfl⟩) | (go_at_call 60; refine (escapes_any _ _ _).mono ?_; rintro e w' ⟨rfl, rfl⟩) | (go_at_call 62; refine (counts_any _ _ _ _).mono ?_; rintro e w' ⟨rfl, rfl⟩) | (go_at_call 61; refine (identifies_any _ _ _ _).mono ?_; rintro e w' ⟨rfl, rfl⟩) | (go_at_call 65; refine (sign_from (by assumption) (by assumption)).mono ?_; rintro e w' ⟨rfl, h', g'⟩; have bx := HB.out.at_ g'))
  refine bodyPost_ret (v := tokV (Pl.signK (Pl.pk r 0) : Int) 0 0 0 false (S [])) (by simp [results, Tryf.results44, go_sem, tokV, S, bx]) rfl ⟨by rw [E.out], Lx.cast (Lx.tok (by assumption) HB.out.ne) (by rw [E.out]) (by rw [E.out]; simp), gr_tok (gr_trans HG.out.1 g') HG.out.2⟩

set_option maxHeartbeats 2000000 in
theorem next_sign64 {W w : World} {B : Nat} {s : ByteArray} {r : List Nat} {cm : Value} {b : Bool} (h : Lx w B s r cm b) (g : W.grownBy w (some B)) (he : Pl.pk r 0 ≠ -1) (hsp : Pl.isSp (Pl.pk r 0) = false) (h34 : Pl.pk r 0 ≠ 34) (h39 : Pl.pk r 0 ≠ 39) (h64 : Pl.pk r 0 = 64) (hi : Pl.idB (Pl.pk r 1) (Pl.pk r 2) (Pl.pk r 3) = false) (hcn : Pl.cntB (Pl.pk r 0) (Pl.pk r 1) (Pl.pk r 2) = false) (hid : Pl.idB (Pl.pk r 0) (Pl.pk r 1) (Pl.pk r 2) = false) :
    Calls Tryf.prog 44 #[.pointer (some ⟨B, 0, none⟩)] w fun e w' => e = .returned (tokV ((Pl.nextF s.size r).tok.kind : Int) 0 0 (Pl.nextF s.size r).tok.unit (Pl.nextF s.size r).tok.id (S (Pl.nextF s.size r).tok.text)) ∧
      (Lx w' B s (Pl.nextF s.size r).rest cm (b || (Pl.nextF s.size r).opn) ∧ W.grownBy w' (some B)) := by
  have hlt := h.blk.lt
  have ke : (Pl.pk r 0 == -1) = false := by simp [he]
  have k34 : (Pl.pk r 0 == 34) = false := by simp [h34]
  have k39 : (Pl.pk r 0 == 39) = false := by simp [h39]
  have k35 : (Pl.pk r 0 == 35) = false := by simp; omega
  have k45 : (Pl.pk r 0 == 45) = false := by simp; omega
  have k60 : (Pl.pk r 0 == 60) = false := by simp; omega
  have k64 : (Pl.pk r 0 == 64) = true := by simp; omega

  have E := Lib.hid (show Pl.nextF s.size r = _ by unfold Pl.nextF; rw [if_neg he, if_neg (by simp [hsp]), if_neg (by omega), if_neg (by omega), if_neg (by simp [hcn]), if_neg (by omega), if_neg (by simp [hid]), if_neg (by omega), if_neg (by simp [hi])])
  clear he h34 h39 h64
  go_enter Tryf.func44, Tryf.ntmps44
  go_wp2_with fail
  obtain ⟨R, hR⟩ : ∃ R, R = w.heap.size := ⟨_, rfl⟩
  rw [← hR]
  obtain ⟨W1, hW1⟩ : ∃ W1, W1 = w.alloc (.cells #[.int .i64 0, .int .i64 0, .int .i64 0, .int .i64 0, .bool false, .string ⟨#[]⟩] 25) := ⟨_, rfl⟩
  rw [← hW1]
  have HB : Hid (Boxed W1 R B) := Lib.hid ⟨by rw [hW1, hR]; exact Blk.new _ _ _, by omega⟩
  have h1 : Lx W1 B s r cm b := by rw [hW1]; exact h.keep (World.grownBy_alloc w _ none) (by simp)
  have HG : Hid (W.grownBy W1 (some B) ∧ W.heap.size ≤ R) := Lib.hid ⟨by rw [hW1]; exact gr_alloc g _, by rw [hR]; exact g.size⟩
  clear hW1 hR h g hlt
  have g1 := gr_refl W1 (some B)
  go_wp2_with (first | (go_at_call 55; refine (peek_at (by assumption) _ (by omega) (by omega)).mono ?_; rintro e w' ⟨rfl, rfl⟩) | (go_at_call 40; refine (isSpace_any _ _).mono ?_; rintro e w' ⟨rfl, rfl⟩) | (go_at_call 59; refine (Continues_any _ _).mono ?_; rintro e w' ⟨rfl, rfl⟩) | (go_at_call 60; refine (escapes_any _ _ _).mono ?_; rintro e w' ⟨rfl, rfl⟩) | (go_at_call 62; refine (counts_any _ _ _ _).mono ?_; rintro e w' ⟨rfl, rfl⟩) | (go_at_call 61; refine (identifies_any _ _ _ _).mono ?_; rintro e w' ⟨rfl, rfl⟩) | (go_at_call 65; refine (sign_from (by assumption) (by assumption)).mono ?_; rintro e w' ⟨rfl, h', g'⟩; have bx := HB.out.at_ g'))
  refine bodyPost_ret (v := tokV (Pl.signK (Pl.pk r 0) : Int) 0 0 0 false (S [])) (by simp [results, Tryf.results44, go_sem, tokV, S, bx]) rfl ⟨by rw [E.out], Lx.cast (Lx.tok (by assumption) HB.out.ne) (by rw [E.out]) (by rw [E.out]; simp), gr_tok (gr_trans HG.out.1 g') HG.out.2⟩

theorem next_from {W w : World} {B : Nat} {s : ByteArray} {r : List Nat} {cm : Value} {b : Bool} (h : Lx w B s r cm b) (g : W.grownBy w (some B)) :
    Calls Tryf.prog 44 #[.pointer (some ⟨B, 0, none⟩)] w fun e w' => e = .returned (tokV ((Pl.nextF s.size r).tok.kind : Int) 0 0 (Pl.nextF s.size r).tok.unit (Pl.nextF s.size r).tok.id (S (Pl.nextF s.size r).tok.text)) ∧
      (Lx w' B s (Pl.nextF s.size r).rest cm (b || (Pl.nextF s.size r).opn) ∧ W.grownBy w' (some B)) := by
  by_cases he : Pl.pk r 0 = -1
  · exact next_end h g he
  by_cases hsp : Pl.isSp (Pl.pk r 0) = true
  · exact next_space h g hsp
  have hsp : Pl.isSp (Pl.pk r 0) = false := by simpa using hsp
  by_cases h34 : Pl.pk r 0 = 34
  · exact next_quote34 h g h34
  by_cases h39 : Pl.pk r 0 = 39
  · exact next_quote39 h g h39
  by_cases h35 : Pl.pk r 0 = 35
  · by_cases hc : Pl.contsB (Pl.pk r 1) = true
    · exact next_hash1 h g h35 hc
    have hc : Pl.contsB (Pl.pk r 1) = false := by simpa using hc
    by_cases hx : Pl.escB (Pl.pk r 1) (Pl.pk r 2) = true
    · exact next_hash2 h g h35 hc hx
    have hx : Pl.escB (Pl.pk r 1) (Pl.pk r 2) = false := by simpa using hx
    exact next_sign35 h g he hsp h34 h39 h35 hc hx (by rw [h35]; simp [Pl.cntB, Pl.digB]) (by rw [h35]; simp [Pl.idB, Pl.startsB, Pl.escB])
  by_cases hcn : Pl.cntB (Pl.pk r 0) (Pl.pk r 1) (Pl.pk r 2) = true
  · exact next_num h g he hsp h34 h39 h35 hcn
  have hcn : Pl.cntB (Pl.pk r 0) (Pl.pk r 1) (Pl.pk r 2) = false := by simpa using hcn
  by_cases h45 : Pl.pk r 0 = 45
  · by_cases h1 : Pl.pk r 1 = 45
    · by_cases h2 : Pl.pk r 2 = 62
      · exact next_cdc h g he hsp h34 h39 h45 h1 h2
      · exact next_named2 h g he hsp h34 h39 h35 hcn h45 h1 h2 (by rw [h45, h1]; simp [Pl.idB])
    · by_cases hid : Pl.idB (Pl.pk r 0) (Pl.pk r 1) (Pl.pk r 2) = true
      · exact next_named1 h g he hsp h34 h39 h35 hcn h45 h1 hid
      · exact next_sign45a h g he hsp h34 h39 h45 h1 hcn (by simpa using hid)
  by_cases hid : Pl.idB (Pl.pk r 0) (Pl.pk r 1) (Pl.pk r 2) = true
  · exact next_named0 h g he hsp h34 h39 h35 hcn h45 hid
  have hid : Pl.idB (Pl.pk r 0) (Pl.pk r 1) (Pl.pk r 2) = false := by simpa using hid
  by_cases h60 : Pl.pk r 0 = 60
  · by_cases h1 : Pl.pk r 1 = 33
    · by_cases h2 : Pl.pk r 2 = 45
      · by_cases h3 : Pl.pk r 3 = 45
        · exact next_cdo h g he hsp h34 h39 h60 h1 h2 h3
        · exact next_sign60_2 h g he hsp h34 h39 h60 h1 h2 h3 hcn hid
      · exact next_sign60_1 h g he hsp h34 h39 h60 h1 h2 hcn hid
    · exact next_sign60_0 h g he hsp h34 h39 h60 h1 hcn hid
  by_cases h64 : Pl.pk r 0 = 64
  · by_cases hi : Pl.idB (Pl.pk r 1) (Pl.pk r 2) (Pl.pk r 3) = true
    · exact next_at h g he hsp h34 h39 h64 hcn hid hi
    · exact next_sign64 h g he hsp h34 h39 h64 (by simpa using hi) hcn hid
  exact next_sign h g he hsp h34 h39 h35 h45 h60 h64 hcn hid

end Go.Proofs.YtmomkkakjkkakaaFmt
