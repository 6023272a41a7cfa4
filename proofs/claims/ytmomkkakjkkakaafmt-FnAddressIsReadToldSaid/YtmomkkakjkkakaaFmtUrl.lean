/-
  WALK of the reader's url.
-/
import Derived.Test.YtmomkkakjkkakaaFmtQuot
set_option linter.unusedVariables false
set_option linter.unusedSimpArgs false
set_option maxRecDepth 100000
namespace Go.Proofs.YtmomkkakjkkakaaFmt
open Go.RowKit


set_option maxHeartbeats 4000000 in
theorem url_from {W w : World} {B : Nat} {s : ByteArray} {r : List Nat} {cm : Value} {b : Bool} (h : Lx w B s r cm b) (g : W.grownBy w (some B)) :
    Calls Tryf.prog 85 #[.pointer (some ⟨B, 0, none⟩)] w fun e w' => e = .returned (tokV ((Pl.urlF r).1 : Int) 0 0 0 false (S (Pl.encs (Pl.urlF r).2.1))) ∧ (Lx w' B s (Pl.urlF r).2.2.1 cm (b || (Pl.urlF r).2.2.2) ∧ W.grownBy w' (some B)) := by
  have hlt := h.blk.lt
  have hr0 : r.length ≤ 1099511627776 := Nat.le_trans (encs_len_ge r) (Nat.le_trans h.le h.small)
  go_enter Tryf.func85, Tryf.ntmps85
  go_wp2_with fail
  obtain ⟨R, hR⟩ : ∃ R, R = w.heap.size := ⟨_, rfl⟩
  rw [← hR]
  obtain ⟨W1, hW1⟩ : ∃ W1, W1 = w.alloc (.cells #[.int .i64 0, .int .i64 0, .int .i64 0, .int .i64 0, .bool false, .string ⟨#[]⟩] 25) := ⟨_, rfl⟩
  rw [← hW1]
  have HB : Hid (Boxed W1 R B) := Lib.hid ⟨by rw [hW1, hR]; exact Blk.new _ _ _, by omega⟩
  have h1 : Lx W1 B s r cm b := by rw [hW1]; exact h.keep (World.grownBy_alloc w _ none) (by simp)
  have HG : Hid (W.grownBy W1 (some B) ∧ W.heap.size ≤ R) := Lib.hid ⟨by rw [hW1]; exact gr_alloc g _, by rw [hR]; exact g.size⟩
  clear hW1 hR h g hlt
  have g1 := gr_refl W1 (some B)
  go_loopg [3] r.length (fun k out wr => ∃ (r' o : List Nat) (b' : Bool), k = r'.length ∧ out = .string (S (Pl.encs o)) ∧ (Pl.encs o).length + 4 * r'.length ≤ 4 * r.length ∧ Lx wr B s r' cm b' ∧ W1.grownBy wr (some B) ∧
    Hid (Pl.urlF r = ((Pl.urlF r').1, (if (Pl.urlF r').1 = 37 then o else []) ++ (Pl.urlF r').2.1, (Pl.urlF r').2.2.1, (Pl.urlF r).2.2.2) ∧ (b || (Pl.urlF r).2.2.2) = (b' || (Pl.urlF r').2.2.2)))
  case atStart => exact ⟨r, [], b, rfl, rfl, by simp [Pl.encs], h1, g1, Lib.hid ⟨by simp, rfl⟩⟩
  case round =>
    clear h1 g1
    obtain ⟨r', o, b', rfl, rfl, hlen, h, g, HE⟩ := hrel
    have hsz : (S (Pl.encs o)).size ≤ 4398046511104 := by rw [S_size]; omega
    clear hr0
    by_cases h0 : r' = []
    · subst h0
      have kq : (Pl.pk [] 0 == 41) = false := by decide
      have ke : (Pl.pk [] 0 == -1) = true := by decide
      have c3 := h.cell3
      have f3 := h.free 3
      have bx := HB.out.at_ (gr_put g 3 (.bool true))
      go_wp2_with (first | (go_at_call 55; refine (peek_at (by assumption) _ (by omega) (by omega)).mono ?_; rintro e w' ⟨rfl, rfl⟩))
      refine bodyPost_ret (v := tokV 37 0 0 0 false (S (Pl.encs o))) (by simp [results, Tryf.results85, go_sem, tokV, bx]) rfl ⟨by rw [HE.out.1, Pl.urlF_nil]; simp, Lx.cast (Lx.tok h.opened HB.out.ne) (by rw [HE.out.1, Pl.urlF_nil]) (by rw [HE.out.2, Pl.urlF_nil]; simp), gr_tok (gr_trans HG.out.1 (gr_put g _ _)) HG.out.2⟩
    have HNE := Lib.hid h0
    have ke : (Pl.pk r' 0 == -1) = false := by simp; intro e; exact h0 (Pl.pk_end e)
    clear h0
    by_cases hq : Pl.pk r' 0 = 41
    · have kq : (Pl.pk r' 0 == 41) = true := by simp [hq]
      have HN := Lib.hid (Pl.urlF_end HNE.out hq)
      clear hq
      go_wp2_with (first | (go_at_call 55; refine (peek_at (by assumption) _ (by omega) (by omega)).mono ?_; rintro e w' ⟨rfl, rfl⟩) | (go_at_call 56; refine (take_from (by assumption) (by assumption)).mono ?_; rintro e w' ⟨rfl, h', g'⟩; have bx := HB.out.at_ g'))
      refine bodyPost_ret (v := tokV 37 0 0 0 false (S (Pl.encs o))) (by simp [results, Tryf.results85, go_sem, tokV, bx]) rfl ⟨by rw [HE.out.1, HN.out]; simp, Lx.cast (Lx.tok (by assumption) HB.out.ne) (by rw [HE.out.1, HN.out]) (by rw [HE.out.2, HN.out]; simp), gr_tok (gr_trans HG.out.1 g') HG.out.2⟩
    have kq : (Pl.pk r' 0 == 41) = false := by simp [hq]
    have HQ := Lib.hid hq
    clear hq
    by_cases hsp : Pl.isSp (Pl.pk r' 0) = true
    · by_cases hb : Pl.pk (Pl.spF r') 0 ≠ 41 ∧ Pl.pk (Pl.spF r') 0 ≠ -1
      · have HN := Lib.hid (Pl.urlF_spbad HNE.out HQ.out hsp hb)
        have k1 : (Pl.pk (Pl.spF r') 0 != 41) = true := by simp [hb.1]
        have k2 : (Pl.pk (Pl.spF r') 0 != -1) = true := by simp [hb.2]
        clear hb
        go_wp2_with (first | (go_at_call 55; refine (peek_at (by assumption) _ (by omega) (by omega)).mono ?_; rintro e w' ⟨rfl, rfl⟩) | (go_at_call 40; refine (isSpace_any _ _).mono ?_; rintro e w' ⟨rfl, rfl⟩) | (go_at_call 57; refine (spaces_from (by assumption) (by assumption)).mono ?_; rintro e w' ⟨rfl, h', g'⟩) | (go_at_call 94; refine (badURL_from (by assumption) (by assumption)).mono ?_; rintro e w' ⟨rfl, h', g'⟩; have bx := HB.out.at_ g'))
        refine bodyPost_ret (v := tokV 3 0 0 0 false (S [])) (by simp [results, Tryf.results85, go_sem, tokV, bx]) rfl ⟨by rw [HE.out.1, HN.out]; rfl, Lx.cast (Lx.tok (by assumption) HB.out.ne) (by rw [HE.out.1, HN.out]) (by rw [HE.out.2, HN.out]), gr_tok (gr_trans HG.out.1 g') HG.out.2⟩
      · have HN := Lib.hid (Pl.urlF_sp HNE.out HQ.out hsp hb)
        have HS := Lib.hid (show (Pl.spF r').length < r'.length by
          have := Pl.tail_lt HNE.out
          have := Pl.dropWhile_len (p := fun c => Pl.isSp (c : Int)) r'.tail
          have e : Pl.spF r' = Pl.spF r'.tail := Pl.spF_yes hsp
          rw [e]; unfold Pl.spF; omega)
        have hb' : Pl.pk (Pl.spF r') 0 = 41 ∨ Pl.pk (Pl.spF r') 0 = -1 := by
          by_cases x : Pl.pk (Pl.spF r') 0 = 41
          · exact Or.inl x
          · by_cases y : Pl.pk (Pl.spF r') 0 = -1
            · exact Or.inr y
            · exact absurd ⟨x, y⟩ hb
        clear hb
        rcases hb' with hb | hb
        · have k1 : (Pl.pk (Pl.spF r') 0 != 41) = false := by simp [hb]
          clear hb
          go_wp2_with (first | (go_at_call 55; refine (peek_at (by assumption) _ (by omega) (by omega)).mono ?_; rintro e w' ⟨rfl, rfl⟩) | (go_at_call 40; refine (isSpace_any _ _).mono ?_; rintro e w' ⟨rfl, rfl⟩) | (go_at_call 57; refine (spaces_from (by assumption) (by assumption)).mono ?_; rintro e w' ⟨rfl, h', g'⟩))
          go_roundg (Pl.spF r').length
          case measure => exact HS.out
          case rel => exact ⟨Pl.spF r', o, b', rfl, rfl, by have := HS.out; omega, by assumption, by assumption, Lib.hid ⟨by rw [HE.out.1, HN.out], by rw [HE.out.2, HN.out]⟩⟩
        · have k1 : (Pl.pk (Pl.spF r') 0 != 41) = true := by rw [hb]; decide
          have k2 : (Pl.pk (Pl.spF r') 0 != -1) = false := by simp [hb]
          clear hb
          go_wp2_with (first | (go_at_call 55; refine (peek_at (by assumption) _ (by omega) (by omega)).mono ?_; rintro e w' ⟨rfl, rfl⟩) | (go_at_call 40; refine (isSpace_any _ _).mono ?_; rintro e w' ⟨rfl, rfl⟩) | (go_at_call 57; refine (spaces_from (by assumption) (by assumption)).mono ?_; rintro e w' ⟨rfl, h', g'⟩))
          go_roundg (Pl.spF r').length
          case measure => exact HS.out
          case rel => exact ⟨Pl.spF r', o, b', rfl, rfl, by have := HS.out; omega, by assumption, by assumption, Lib.hid ⟨by rw [HE.out.1, HN.out], by rw [HE.out.2, HN.out]⟩⟩
    have hsp : Pl.isSp (Pl.pk r' 0) = false := by simpa using hsp
    have HSP := Lib.hid hsp
    by_cases hbad : Pl.urlBad (Pl.pk r' 0) (Pl.pk r' 1) = true
    · have HN := Lib.hid (Pl.urlF_bad HNE.out HQ.out HSP.out hbad)
      unfold Pl.urlBad at hbad
      simp only [Bool.or_eq_true, Bool.and_eq_true, decide_eq_true_eq, Bool.not_eq_true'] at hbad
      rcases hbad with ((hb | hb | hb) | hb) | ⟨hb, hb2⟩
      · have k1 : (Pl.pk r' 0 == 34) = true := by simp [hb]
        clear hb
        go_wp2_with (first | (go_at_call 55; refine (peek_at (by assumption) _ (by omega) (by omega)).mono ?_; rintro e w' ⟨rfl, rfl⟩) | (go_at_call 40; refine (isSpace_any _ _).mono ?_; rintro e w' ⟨rfl, rfl⟩) | (go_at_call 41; refine (isUnprintable_any _ _).mono ?_; rintro e w' ⟨rfl, rfl⟩) | (go_at_call 60; refine (escapes_any _ _ _).mono ?_; rintro e w' ⟨rfl, rfl⟩) | (go_at_call 94; refine (badURL_from (by assumption) (by assumption)).mono ?_; rintro e w' ⟨rfl, h', g'⟩; have bx := HB.out.at_ g'))
        refine bodyPost_ret (v := tokV 3 0 0 0 false (S [])) (by simp [results, Tryf.results85, go_sem, tokV, bx]) rfl ⟨by rw [HE.out.1, HN.out]; rfl, Lx.cast (Lx.tok (by assumption) HB.out.ne) (by rw [HE.out.1, HN.out]) (by rw [HE.out.2, HN.out]), gr_tok (gr_trans HG.out.1 g') HG.out.2⟩
      · have k1 : (Pl.pk r' 0 == 34) = false := by rw [hb]; decide
        have k2 : (Pl.pk r' 0 == 39) = true := by simp [hb]
        clear hb
        go_wp2_with (first | (go_at_call 55; refine (peek_at (by assumption) _ (by omega) (by omega)).mono ?_; rintro e w' ⟨rfl, rfl⟩) | (go_at_call 40; refine (isSpace_any _ _).mono ?_; rintro e w' ⟨rfl, rfl⟩) | (go_at_call 41; refine (isUnprintable_any _ _).mono ?_; rintro e w' ⟨rfl, rfl⟩) | (go_at_call 60; refine (escapes_any _ _ _).mono ?_; rintro e w' ⟨rfl, rfl⟩) | (go_at_call 94; refine (badURL_from (by assumption) (by assumption)).mono ?_; rintro e w' ⟨rfl, h', g'⟩; have bx := HB.out.at_ g'))
        refine bodyPost_ret (v := tokV 3 0 0 0 false (S [])) (by simp [results, Tryf.results85, go_sem, tokV, bx]) rfl ⟨by rw [HE.out.1, HN.out]; rfl, Lx.cast (Lx.tok (by assumption) HB.out.ne) (by rw [HE.out.1, HN.out]) (by rw [HE.out.2, HN.out]), gr_tok (gr_trans HG.out.1 g') HG.out.2⟩
      · have k1 : (Pl.pk r' 0 == 34) = false := by rw [hb]; decide
        have k2 : (Pl.pk r' 0 == 39) = false := by rw [hb]; decide
        have k3 : (Pl.pk r' 0 == 40) = true := by simp [hb]
        clear hb
        go_wp2_with (first | (go_at_call 55; refine (peek_at (by assumption) _ (by omega) (by omega)).mono ?_; rintro e w' ⟨rfl, rfl⟩) | (go_at_call 40; refine (isSpace_any _ _).mono ?_; rintro e w' ⟨rfl, rfl⟩) | (go_at_call 41; refine (isUnprintable_any _ _).mono ?_; rintro e w' ⟨rfl, rfl⟩) | (go_at_call 60; refine (escapes_any _ _ _).mono ?_; rintro e w' ⟨rfl, rfl⟩) | (go_at_call 94; refine (badURL_from (by assumption) (by assumption)).mono ?_; rintro e w' ⟨rfl, h', g'⟩; have bx := HB.out.at_ g'))
        refine bodyPost_ret (v := tokV 3 0 0 0 false (S [])) (by simp [results, Tryf.results85, go_sem, tokV, bx]) rfl ⟨by rw [HE.out.1, HN.out]; rfl, Lx.cast (Lx.tok (by assumption) HB.out.ne) (by rw [HE.out.1, HN.out]) (by rw [HE.out.2, HN.out]), gr_tok (gr_trans HG.out.1 g') HG.out.2⟩
      · have hb' := hb
        simp only [Pl.unpB, decide_eq_true_eq] at hb'
        have k1 : (Pl.pk r' 0 == 34) = false := by simp; omega
        have k2 : (Pl.pk r' 0 == 39) = false := by simp; omega
        have k3 : (Pl.pk r' 0 == 40) = false := by simp; omega
        clear hb'
        go_wp2_with (first | (go_at_call 55; refine (peek_at (by assumption) _ (by omega) (by omega)).mono ?_; rintro e w' ⟨rfl, rfl⟩) | (go_at_call 40; refine (isSpace_any _ _).mono ?_; rintro e w' ⟨rfl, rfl⟩) | (go_at_call 41; refine (isUnprintable_any _ _).mono ?_; rintro e w' ⟨rfl, rfl⟩) | (go_at_call 60; refine (escapes_any _ _ _).mono ?_; rintro e w' ⟨rfl, rfl⟩) | (go_at_call 94; refine (badURL_from (by assumption) (by assumption)).mono ?_; rintro e w' ⟨rfl, h', g'⟩; have bx := HB.out.at_ g'))
        refine bodyPost_ret (v := tokV 3 0 0 0 false (S [])) (by simp [results, Tryf.results85, go_sem, tokV, bx]) rfl ⟨by rw [HE.out.1, HN.out]; rfl, Lx.cast (Lx.tok (by assumption) HB.out.ne) (by rw [HE.out.1, HN.out]) (by rw [HE.out.2, HN.out]), gr_tok (gr_trans HG.out.1 g') HG.out.2⟩
      · have k1 : (Pl.pk r' 0 == 34) = false := by rw [hb]; decide
        have k2 : (Pl.pk r' 0 == 39) = false := by rw [hb]; decide
        have k3 : (Pl.pk r' 0 == 40) = false := by rw [hb]; decide
        have k4 : Pl.unpB (Pl.pk r' 0) = false := by rw [hb]; decide
        have k5 : (Pl.pk r' 0 == 92) = true := by simp [hb]
        clear hb
        go_wp2_with (first | (go_at_call 55; refine (peek_at (by assumption) _ (by omega) (by omega)).mono ?_; rintro e w' ⟨rfl, rfl⟩) | (go_at_call 40; refine (isSpace_any _ _).mono ?_; rintro e w' ⟨rfl, rfl⟩) | (go_at_call 41; refine (isUnprintable_any _ _).mono ?_; rintro e w' ⟨rfl, rfl⟩) | (go_at_call 60; refine (escapes_any _ _ _).mono ?_; rintro e w' ⟨rfl, rfl⟩) | (go_at_call 94; refine (badURL_from (by assumption) (by assumption)).mono ?_; rintro e w' ⟨rfl, h', g'⟩; have bx := HB.out.at_ g'))
        refine bodyPost_ret (v := tokV 3 0 0 0 false (S [])) (by simp [results, Tryf.results85, go_sem, tokV, bx]) rfl ⟨by rw [HE.out.1, HN.out]; rfl, Lx.cast (Lx.tok (by assumption) HB.out.ne) (by rw [HE.out.1, HN.out]) (by rw [HE.out.2, HN.out]), gr_tok (gr_trans HG.out.1 g') HG.out.2⟩
    have hbad : Pl.urlBad (Pl.pk r' 0) (Pl.pk r' 1) = false := by simpa using hbad
    have HBD := Lib.hid hbad
    unfold Pl.urlBad at hbad
    simp only [Bool.or_eq_false_iff, decide_eq_false_iff_not, Bool.and_eq_false_iff, Bool.not_eq_false'] at hbad
    obtain ⟨⟨hb1, k4⟩, hb3⟩ := hbad
    have k1 : (Pl.pk r' 0 == 34) = false := by simp; omega
    have k2 : (Pl.pk r' 0 == 39) = false := by simp; omega
    have k3 : (Pl.pk r' 0 == 40) = false := by simp; omega
    clear hb1
    by_cases h92 : Pl.pk r' 0 = 92
    · have k92 : (Pl.pk r' 0 == 92) = true := by simp [h92]
      have H92 := Lib.hid h92
      have k5 : Pl.escB (Pl.pk r' 0) (Pl.pk r' 1) = true := by
        rcases hb3 with hb3 | hb3
        · exact absurd h92 hb3
        · exact hb3
      clear h92 hb3
      have HN := Lib.hid (Pl.urlF_esc HNE.out HQ.out HSP.out HBD.out H92.out)
      have hsc : Pl.Sc ((Pl.escF r'.tail).1 : Int).toNat := by rw [Int.toNat_natCast]; exact escF_sc fun c hc => h.ok c (List.mem_of_mem_tail hc)
      have hl4 := enc_len_le (Pl.escF r'.tail).1
      have hs4 : (S (Pl.enc (Pl.escF r'.tail).1)).size ≤ 4 := by rw [S_size]; exact hl4
      have HL := Lib.hid hlen
      have HL4 := Lib.hid hl4
      clear hlen hl4
      go_wp2_with (first | (go_at_call 55; refine (peek_at (by assumption) _ (by omega) (by omega)).mono ?_; rintro e w' ⟨rfl, rfl⟩) | (go_at_call 40; refine (isSpace_any _ _).mono ?_; rintro e w' ⟨rfl, rfl⟩) | (go_at_call 41; refine (isUnprintable_any _ _).mono ?_; rintro e w' ⟨rfl, rfl⟩) | (go_at_call 60; refine (escapes_any _ _ _).mono ?_; rintro e w' ⟨rfl, rfl⟩) | (go_at_call 56; refine (take_from (by assumption) (by assumption)).mono ?_; rintro e w' ⟨rfl, h', g'⟩) | (go_at_call 71; refine (escape_from (by assumption) (by assumption)).mono ?_; rintro e w' ⟨rfl, h', g'⟩) | (go_at_call 70; refine (encoded_from (by assumption) (by assumption) _ (by omega) (by assumption)).mono ?_; rintro e w' ⟨rfl, h', g'⟩))
      go_roundg (Pl.escF r'.tail).2.1.length
      case measure => have := Pl.tail_lt HNE.out; have := Pl.escF_len r'.tail; omega
      case rel => exact ⟨(Pl.escF r'.tail).2.1, o ++ [(Pl.escF r'.tail).1], b' || (Pl.escF r'.tail).2.2, rfl, by first | rw [S_snoc] | (rw [Int.toNat_natCast, S_snoc]), by
          have := Pl.tail_lt HNE.out; have := Pl.escF_len r'.tail; have := HL.out; have := HL4.out; rw [Pl.encs_append, encs_one, List.length_append]; omega, by assumption, by assumption,
          Lib.hid ⟨by rw [HE.out.1, HN.out]; split <;> simp, by rw [HE.out.2, HN.out, Bool.or_assoc]⟩⟩
    · have k92 : (Pl.pk r' 0 == 92) = false := by simp [h92]
      have HN := Lib.hid (Pl.urlF_char HNE.out HQ.out HSP.out HBD.out h92)
      clear h92 hb3
      obtain ⟨hp, hsc⟩ := pk_sc h.ok HNE.out
      have hl4 := enc_len_le (Pl.pk r' 0).toNat
      have hs4 : (S (Pl.enc (Pl.pk r' 0).toNat)).size ≤ 4 := by rw [S_size]; exact hl4
      have HL := Lib.hid hlen
      have HL4 := Lib.hid hl4
      clear hlen hl4
      go_wp2_with (first | (go_at_call 55; refine (peek_at (by assumption) _ (by omega) (by omega)).mono ?_; rintro e w' ⟨rfl, rfl⟩) | (go_at_call 40; refine (isSpace_any _ _).mono ?_; rintro e w' ⟨rfl, rfl⟩) | (go_at_call 41; refine (isUnprintable_any _ _).mono ?_; rintro e w' ⟨rfl, rfl⟩) | (go_at_call 60; refine (escapes_any _ _ _).mono ?_; rintro e w' ⟨rfl, rfl⟩) | (go_at_call 56; refine (take_from (by assumption) (by assumption)).mono ?_; rintro e w' ⟨rfl, h', g'⟩) | (go_at_call 70; refine (encoded_from (by assumption) (by assumption) _ (by omega) (by assumption)).mono ?_; rintro e w' ⟨rfl, h', g'⟩))
      go_roundg r'.tail.length
      case measure => exact Pl.tail_lt HNE.out
      case rel => exact ⟨r'.tail, o ++ [(Pl.pk r' 0).toNat], b', rfl, by rw [S_snoc], by
          have := Pl.tail_lt HNE.out; have := HL.out; have := HL4.out; rw [Pl.encs_append, encs_one, List.length_append]; omega, by assumption, by assumption,
          Lib.hid ⟨by rw [HE.out.1, HN.out]; split <;> simp, by rw [HE.out.2, HN.out]⟩⟩

end Go.Proofs.YtmomkkakjkkakaaFmt
