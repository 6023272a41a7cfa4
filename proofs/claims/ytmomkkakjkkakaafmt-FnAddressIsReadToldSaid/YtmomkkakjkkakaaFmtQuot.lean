/-
  WALK of the reader's quoted.
-/
import Derived.Test.YtmomkkakjkkakaaFmtBad
set_option linter.unusedVariables false
set_option linter.unusedSimpArgs false
set_option maxRecDepth 100000
namespace Go.Proofs.YtmomkkakjkkakaaFmt
open Go.RowKit


set_option maxHeartbeats 4000000 in
theorem quoted_from {W w : World} {B : Nat} {s : ByteArray} {r : List Nat} {cm : Value} {b : Bool} (h : Lx w B s r cm b) (g : W.grownBy w (some B)) (q : Nat) (hq0 : Pl.pk r 0 = (q : Int)) :
    Calls Tryf.prog 58 #[.pointer (some ⟨B, 0, none⟩)] w fun e w' => e = .returned (tokV ((Pl.quotF q r.tail).1 : Int) 0 0 0 false (S (Pl.encs (Pl.quotF q r.tail).2.1))) ∧ (Lx w' B s (Pl.quotF q r.tail).2.2.1 cm (b || (Pl.quotF q r.tail).2.2.2) ∧ W.grownBy w' (some B)) := by
  have hlt := h.blk.lt
  have hr0 : r.length ≤ 1099511627776 := Nat.le_trans (encs_len_ge r) (Nat.le_trans h.le h.small)
  obtain ⟨r1, hr1⟩ : ∃ r1, r1 = r.tail := ⟨_, rfl⟩
  have hr2 : r1.length ≤ 1099511627776 := by rw [hr1, List.length_tail]; omega
  rw [← hr1]
  have HR1 := Lib.hid hr1
  clear hr1
  go_enter Tryf.func58, Tryf.ntmps58
  go_wp2_with fail
  obtain ⟨R, hR⟩ : ∃ R, R = w.heap.size := ⟨_, rfl⟩
  rw [← hR]
  obtain ⟨W1, hW1⟩ : ∃ W1, W1 = w.alloc (.cells #[.int .i64 0, .int .i64 0, .int .i64 0, .int .i64 0, .bool false, .string ⟨#[]⟩] 25) := ⟨_, rfl⟩
  rw [← hW1]
  have HB : Hid (Boxed W1 R B) := Lib.hid ⟨by rw [hW1, hR]; exact Blk.new _ _ _, by omega⟩
  have h1 : Lx W1 B s r cm b := by rw [hW1]; exact h.keep (World.grownBy_alloc w _ none) (by simp)
  have HG : Hid (W.grownBy W1 (some B) ∧ W.heap.size ≤ R) := Lib.hid ⟨by rw [hW1]; exact gr_alloc g _, by rw [hR]; exact g.size⟩
  clear hW1 hR h g hlt
  have g1 := gr_refl W1 (some B)
  go_wp2_with (first | (go_at_call 56; refine (take_from (by assumption) (by assumption)).mono ?_; rintro e w' ⟨rfl, h', g'⟩))
  have h2 := h'
  have g2 := g'
  clear h' g'
  clear h1 g1
  have hq : ∀ x : Int, x = q → x ≠ -1 := fun x hx => by omega
  clear hq hq0
  rw [← HR1.out] at h2
  clear HR1 hr0
  go_loopg [4] r1.length (fun k out wr => ∃ (r' o : List Nat) (b' : Bool), k = r'.length ∧ out = .string (S (Pl.encs o)) ∧ (Pl.encs o).length + 4 * r'.length ≤ 4 * r1.length ∧ Lx wr B s r' cm b' ∧ W1.grownBy wr (some B) ∧
    Hid (Pl.quotF q r1 = ((Pl.quotF q r').1, (if (Pl.quotF q r').1 = 36 then o else []) ++ (Pl.quotF q r').2.1, (Pl.quotF q r').2.2.1, (Pl.quotF q r1).2.2.2) ∧ (b || (Pl.quotF q r1).2.2.2) = (b' || (Pl.quotF q r').2.2.2)))
  case atStart => exact ⟨r1, [], b, rfl, rfl, by simp [Pl.encs], h2, g2, Lib.hid ⟨by simp, rfl⟩⟩
  case round =>
    clear h2 g2
    obtain ⟨r', o, b', rfl, rfl, hlen, h, g, HE⟩ := hrel
    have hsz : (S (Pl.encs o)).size ≤ 4398046511104 := by rw [S_size]; omega
    clear hr2
    by_cases h0 : r' = []
    · subst h0
      have kq : (Pl.pk [] 0 == (q : Int)) = false := by simp [Pl.pk]
      have ke : (Pl.pk [] 0 == -1) = true := by decide
      have c3 := h.cell3
      have f3 := h.free 3
      have bx := HB.out.at_ (gr_put g 3 (.bool true))
      go_wp2_with (first | (go_at_call 55; refine (peek_at (by assumption) _ (by omega) (by omega)).mono ?_; rintro e w' ⟨rfl, rfl⟩))
      refine bodyPost_ret (v := tokV 36 0 0 0 false (S (Pl.encs o))) (by simp [results, Tryf.results58, go_sem, tokV, bx]) rfl ⟨by rw [HE.out.1, Pl.quotF_nil]; simp, Lx.cast (Lx.tok h.opened HB.out.ne) (by rw [HE.out.1, Pl.quotF_nil]) (by rw [HE.out.2, Pl.quotF_nil]; simp), gr_tok (gr_trans HG.out.1 (gr_put g _ _)) HG.out.2⟩
    have HNE := Lib.hid h0
    have ke : (Pl.pk r' 0 == -1) = false := by simp; intro e; exact h0 (Pl.pk_end e)
    clear h0
    by_cases hq : Pl.pk r' 0 = (q : Int)
    · have kq : (Pl.pk r' 0 == (q : Int)) = true := by simp [hq]
      have HN := Lib.hid (Pl.quotF_end HNE.out hq)
      clear hq
      go_wp2_with (first | (go_at_call 55; refine (peek_at (by assumption) _ (by omega) (by omega)).mono ?_; rintro e w' ⟨rfl, rfl⟩) | (go_at_call 56; refine (take_from (by assumption) (by assumption)).mono ?_; rintro e w' ⟨rfl, h', g'⟩; have bx := HB.out.at_ g'))
      refine bodyPost_ret (v := tokV 36 0 0 0 false (S (Pl.encs o))) (by simp [results, Tryf.results58, go_sem, tokV, bx]) rfl ⟨by rw [HE.out.1, HN.out]; simp, Lx.cast (Lx.tok (by assumption) HB.out.ne) (by rw [HE.out.1, HN.out]) (by rw [HE.out.2, HN.out]; simp), gr_tok (gr_trans HG.out.1 g') HG.out.2⟩
    have kq : (Pl.pk r' 0 == (q : Int)) = false := by simp [hq]
    have HQ := Lib.hid hq
    clear hq
    by_cases hnl : Pl.isNl (Pl.pk r' 0) = true
    · have HN := Lib.hid (Pl.quotF_nl HNE.out HQ.out hnl)
      have bx := HB.out.at_ g
      go_wp2_with (first | (go_at_call 55; refine (peek_at (by assumption) _ (by omega) (by omega)).mono ?_; rintro e w' ⟨rfl, rfl⟩) | (go_at_call 52; refine (isNewline_any _ _).mono ?_; rintro e w' ⟨rfl, rfl⟩))
      refine bodyPost_ret (v := tokV 2 0 0 0 false (S [])) (by simp [results, Tryf.results58, go_sem, tokV, bx, S]) rfl ⟨by rw [HE.out.1, HN.out]; rfl, Lx.cast (Lx.tok h HB.out.ne) (by rw [HE.out.1, HN.out]) (by rw [HE.out.2, HN.out]; simp), gr_tok (gr_trans HG.out.1 g) HG.out.2⟩
    have hnl : Pl.isNl (Pl.pk r' 0) = false := by simpa using hnl
    have HNL := Lib.hid hnl
    by_cases h92 : Pl.pk r' 0 = 92
    · have k92 : (Pl.pk r' 0 == 92) = true := by simp [h92]
      have H92 := Lib.hid h92
      clear h92
      by_cases h1 : Pl.pk r' 1 = -1
      · have k1 : (Pl.pk r' 1 == -1) = true := by simp [h1]
        have HN := Lib.hid (Pl.quotF_last HNE.out HQ.out HNL.out H92.out h1)
        clear h1
        go_wp2_with (first | (go_at_call 55; refine (peek_at (by assumption) _ (by omega) (by omega)).mono ?_; rintro e w' ⟨rfl, rfl⟩) | (go_at_call 52; refine (isNewline_any _ _).mono ?_; rintro e w' ⟨rfl, rfl⟩) | (go_at_call 56; refine (take_from (by assumption) (by assumption)).mono ?_; rintro e w' ⟨rfl, h', g'⟩))
        go_roundg r'.tail.length
        case measure => exact Pl.tail_lt HNE.out
        case rel => exact ⟨r'.tail, o, b', rfl, rfl, by have := Pl.tail_lt HNE.out; omega, by assumption, by assumption, Lib.hid ⟨by rw [HE.out.1, HN.out], by rw [HE.out.2, HN.out]⟩⟩
      have k1 : (Pl.pk r' 1 == -1) = false := by simp [h1]
      have H1 := Lib.hid h1
      clear h1
      by_cases hn1 : Pl.isNl (Pl.pk r' 1) = true
      · have HN := Lib.hid (Pl.quotF_cont HNE.out HQ.out HNL.out H92.out H1.out hn1)
        go_wp2_with (first | (go_at_call 55; refine (peek_at (by assumption) _ (by omega) (by omega)).mono ?_; rintro e w' ⟨rfl, rfl⟩) | (go_at_call 52; refine (isNewline_any _ _).mono ?_; rintro e w' ⟨rfl, rfl⟩) | (go_at_call 56; refine (take_from (by assumption) (by assumption)).mono ?_; rintro e w' ⟨rfl, h', g'⟩) | (go_at_call 81; refine (newline_from (by assumption) (by assumption)).mono ?_; rintro e w' ⟨rfl, h', g'⟩))
        go_roundg (Pl.nlF r'.tail).length
        case measure => have := Pl.tail_lt HNE.out; have := Pl.nlF_len r'.tail; omega
        case rel => exact ⟨Pl.nlF r'.tail, o, b', rfl, rfl, by have := Pl.tail_lt HNE.out; have := Pl.nlF_len r'.tail; omega, by assumption, by assumption, Lib.hid ⟨by rw [HE.out.1, HN.out], by rw [HE.out.2, HN.out]⟩⟩
      · have hn1 : Pl.isNl (Pl.pk r' 1) = false := by simpa using hn1
        have HN := Lib.hid (Pl.quotF_esc HNE.out HQ.out HNL.out H92.out H1.out hn1)
        have hsc : Pl.Sc ((Pl.escF r'.tail).1 : Int).toNat := by rw [Int.toNat_natCast]; exact escF_sc fun c hc => h.ok c (List.mem_of_mem_tail hc)
        have hl4 := enc_len_le (Pl.escF r'.tail).1
        have hs4 : (S (Pl.enc (Pl.escF r'.tail).1)).size ≤ 4 := by rw [S_size]; exact hl4
        have HL := Lib.hid hlen
        have HL4 := Lib.hid hl4
        clear hlen hl4
        go_wp2_with (first | (go_at_call 55; refine (peek_at (by assumption) _ (by omega) (by omega)).mono ?_; rintro e w' ⟨rfl, rfl⟩) | (go_at_call 52; refine (isNewline_any _ _).mono ?_; rintro e w' ⟨rfl, rfl⟩) | (go_at_call 56; refine (take_from (by assumption) (by assumption)).mono ?_; rintro e w' ⟨rfl, h', g'⟩) | (go_at_call 71; refine (escape_from (by assumption) (by assumption)).mono ?_; rintro e w' ⟨rfl, h', g'⟩) | (go_at_call 70; refine (encoded_from (by assumption) (by assumption) _ (by omega) (by assumption)).mono ?_; rintro e w' ⟨rfl, h', g'⟩))
        go_roundg (Pl.escF r'.tail).2.1.length
        case measure => have := Pl.tail_lt HNE.out; have := Pl.escF_len r'.tail; omega
        case rel => exact ⟨(Pl.escF r'.tail).2.1, o ++ [(Pl.escF r'.tail).1], b' || (Pl.escF r'.tail).2.2, rfl, by first | rw [S_snoc] | (rw [Int.toNat_natCast, S_snoc]), by
          have := Pl.tail_lt HNE.out; have := Pl.escF_len r'.tail; have := HL.out; have := HL4.out; rw [Pl.encs_append, encs_one, List.length_append]; omega, by assumption, by assumption,
          Lib.hid ⟨by rw [HE.out.1, HN.out]; split <;> simp, by rw [HE.out.2, HN.out, Bool.or_assoc]⟩⟩
    · have k92 : (Pl.pk r' 0 == 92) = false := by simp [h92]
      have HN := Lib.hid (Pl.quotF_char HNE.out HQ.out HNL.out h92)
      clear h92
      obtain ⟨hp, hsc⟩ := pk_sc h.ok HNE.out
      have hl4 := enc_len_le (Pl.pk r' 0).toNat
      have hs4 : (S (Pl.enc (Pl.pk r' 0).toNat)).size ≤ 4 := by rw [S_size]; exact hl4
      have HL := Lib.hid hlen
      have HL4 := Lib.hid hl4
      clear hlen hl4
      go_wp2_with (first | (go_at_call 55; refine (peek_at (by assumption) _ (by omega) (by omega)).mono ?_; rintro e w' ⟨rfl, rfl⟩) | (go_at_call 52; refine (isNewline_any _ _).mono ?_; rintro e w' ⟨rfl, rfl⟩) | (go_at_call 56; refine (take_from (by assumption) (by assumption)).mono ?_; rintro e w' ⟨rfl, h', g'⟩) | (go_at_call 70; refine (encoded_from (by assumption) (by assumption) _ (by omega) (by assumption)).mono ?_; rintro e w' ⟨rfl, h', g'⟩))
      go_roundg r'.tail.length
      case measure => exact Pl.tail_lt HNE.out
      case rel => exact ⟨r'.tail, o ++ [(Pl.pk r' 0).toNat], b', rfl, by rw [S_snoc], by
          have := Pl.tail_lt HNE.out; have := HL.out; have := HL4.out; rw [Pl.encs_append, encs_one, List.length_append]; omega, by assumption, by assumption,
          Lib.hid ⟨by rw [HE.out.1, HN.out]; split <;> simp, by rw [HE.out.2, HN.out]⟩⟩

end Go.Proofs.YtmomkkakjkkakaaFmt
