/-
  WALK of the reader's named.
-/
import Derived.Deep.DeepCutAuto
import Derived.Test.YtmomkkakjkkakaaFmtUrlB
set_option linter.unusedVariables false
set_option linter.unusedSimpArgs false
set_option maxRecDepth 100000
namespace Go.Proofs.YtmomkkakjkkakaaFmt
open Go.RowKit


theorem nameF_tlen (n : Nat) : ∀ r : List Nat, r.length ≤ n → (Pl.encs (Pl.nameF r).1).length ≤ 4 * r.length := by
  induction n with
  | zero => intro r h; have : r = [] := List.eq_nil_of_length_eq_zero (by omega); subst this; rw [Pl.nameF_nil]; simp [Pl.encs]
  | succ n ih =>
    intro r h
    by_cases h1 : Pl.contsB (Pl.pk r 0) = true
    · have ht := Pl.tail_lt (Pl.contsB_ne_nil h1)
      rw [Pl.nameF_conts h1]
      have := ih r.tail (by omega)
      have := enc_len_le (Pl.pk r 0).toNat
      rw [Pl.encs_cons, List.length_append]; omega
    · have h1 : Pl.contsB (Pl.pk r 0) = false := by simpa using h1
      by_cases h2 : Pl.escB (Pl.pk r 0) (Pl.pk r 1) = true
      · have ht := Pl.tail_lt (Pl.escB_ne_nil h2)
        have he := Pl.escF_len r.tail
        rw [Pl.nameF_esc h1 h2]
        have := ih (Pl.escF r.tail).2.1 (by omega)
        have := enc_len_le (Pl.escF r.tail).1
        rw [Pl.encs_cons, List.length_append]; omega
      · rw [Pl.nameF_done h1 (by simpa using h2)]; simp [Pl.encs]
theorem urlF_tlen (n : Nat) : ∀ r : List Nat, r.length ≤ n → (Pl.encs (Pl.urlF r).2.1).length ≤ 4 * r.length := by
  induction n with
  | zero => intro r h; have : r = [] := List.eq_nil_of_length_eq_zero (by omega); subst this; rw [Pl.urlF_nil]; simp [Pl.encs]
  | succ n ih =>
    intro r h
    by_cases h0 : r = []
    · subst h0; rw [Pl.urlF_nil]; simp [Pl.encs]
    have ht := Pl.tail_lt h0
    by_cases h1 : Pl.pk r 0 = 41
    · rw [Pl.urlF_end h0 h1]; simp [Pl.encs]
    by_cases h2 : Pl.isSp (Pl.pk r 0) = true
    · have hs := Pl.dropWhile_len (p := fun c => Pl.isSp (c : Int)) r.tail
      have hs' : (Pl.spF r).length ≤ r.tail.length := by rw [Pl.spF_yes h2]; exact hs
      by_cases h3 : Pl.pk (Pl.spF r) 0 ≠ 41 ∧ Pl.pk (Pl.spF r) 0 ≠ -1
      · rw [Pl.urlF_spbad h0 h1 h2 h3]; simp [Pl.encs]
      · rw [Pl.urlF_sp h0 h1 h2 h3]
        have := ih (Pl.spF r) (by omega)
        omega
    have h2 : Pl.isSp (Pl.pk r 0) = false := by simpa using h2
    by_cases h3 : Pl.urlBad (Pl.pk r 0) (Pl.pk r 1) = true
    · rw [Pl.urlF_bad h0 h1 h2 h3]; simp [Pl.encs]
    have h3 : Pl.urlBad (Pl.pk r 0) (Pl.pk r 1) = false := by simpa using h3
    by_cases h4 : Pl.pk r 0 = 92
    · rw [Pl.urlF_esc h0 h1 h2 h3 h4]
      have he := Pl.escF_len r.tail
      have := ih (Pl.escF r.tail).2.1 (by omega)
      have := enc_len_le (Pl.escF r.tail).1
      simp only [Pl.encs_append, List.length_append]
      split
      · rw [encs_one]; omega
      · simp [Pl.encs_nil]; omega
    · rw [Pl.urlF_char h0 h1 h2 h3 h4]
      have := ih r.tail (by omega)
      have := enc_len_le (Pl.pk r 0).toNat
      simp only [Pl.encs_append, List.length_append]
      split
      · rw [encs_one]; omega
      · simp [Pl.encs_nil]; omega
theorem Lx.back {w w0 : World} {B : Nat} {s : ByteArray} {r r0 : List Nat} {cm : Value} {b b0 : Bool} (h : Lx w B s r cm b) (h0 : Lx w0 B s r0 cm b0) : Lx (w.setCell ⟨B, 1, none⟩ (.int .i64 (Pl.posN s.size r0))) B s r0 cm b :=
  ⟨h.blk.put 1 _, h0.txt, h0.ok, h0.le, h0.small⟩
theorem Lx.openTo {w : World} {B : Nat} {s : ByteArray} {r : List Nat} {cm : Value} {b : Bool} (h : Lx w B s r cm b) (v : Bool) : Lx (w.setCell ⟨B, 3, none⟩ (.bool v)) B s r cm v :=
  ⟨h.blk.put 3 _, h.txt, h.ok, h.le, h.small⟩
theorem Lx.alloc {w : World} {B : Nat} {s : ByteArray} {r : List Nat} {cm : Value} {b : Bool} (h : Lx w B s r cm b) (o : Obj) : Lx (w.alloc o) B s r cm b :=
  h.keep (World.grownBy_alloc w o none) (by simp)
theorem opn_eq (b n u sh t bo : Bool) (h : bo = ((b || n) || u)) : (b || (n || u || !sh || !t)) = (bo || !sh || !t) := by subst h; simp [Bool.or_assoc]
theorem namedF_id {T : Nat} {r : List Nat} (h : Pl.pk (Pl.nameF r).2.1 0 ≠ 40) : Pl.namedF T r = { tok := { kind := 29, text := Pl.encs (Pl.nameF r).1 }, rest := (Pl.nameF r).2.1, opn := (Pl.nameF r).2.2 } := by
  unfold Pl.namedF; rw [if_pos h]
theorem namedF_fn {T : Nat} {r : List Nat} (h : Pl.pk (Pl.nameF r).2.1 0 = 40) (h2 : Pl.isUrlB (Pl.encs (Pl.nameF r).1) = false ∨ Pl.pk (Pl.spF (Pl.nameF r).2.1.tail) 0 = 34 ∨ Pl.pk (Pl.spF (Pl.nameF r).2.1.tail) 0 = 39) :
    Pl.namedF T r = { tok := { kind := 27, text := Pl.encs (Pl.nameF r).1 }, rest := (Pl.nameF r).2.1.tail, opn := (Pl.nameF r).2.2 } := by
  unfold Pl.namedF
  rw [if_neg (by simp [h]), if_neg]
  rintro ⟨a, b, c⟩
  rcases h2 with x | x | x
  · rw [a] at x; cases x
  · exact b x
  · exact c x
theorem namedF_url {T : Nat} {r : List Nat} (h : Pl.pk (Pl.nameF r).2.1 0 = 40) (h2 : Pl.isUrlB (Pl.encs (Pl.nameF r).1) = true) (h3 : Pl.pk (Pl.spF (Pl.nameF r).2.1.tail) 0 ≠ 34) (h4 : Pl.pk (Pl.spF (Pl.nameF r).2.1.tail) 0 ≠ 39) :
    Pl.namedF T r = { tok := { kind := (Pl.urlF (Pl.spF (Pl.nameF r).2.1.tail)).1, text := Pl.encs (Pl.urlF (Pl.spF (Pl.nameF r).2.1.tail)).2.1 }, rest := (Pl.urlF (Pl.spF (Pl.nameF r).2.1.tail)).2.2.1, opn := (Pl.nameF r).2.2 || (Pl.urlF (Pl.spF (Pl.nameF r).2.1.tail)).2.2.2 || !decide ((Pl.posN T (Pl.nameF r).2.1 : Int) - Pl.posN T r = 3) || !Pl.trimB (Pl.encs (Pl.urlF (Pl.spF (Pl.nameF r).2.1.tail)).2.1) } := by
  unfold Pl.namedF
  rw [if_neg (by simp [h]), if_pos ⟨h2, h3, h4⟩]

set_option maxHeartbeats 4000000 in
theorem named_from {W w : World} {B : Nat} {s : ByteArray} {r : List Nat} {cm : Value} {b : Bool} (h : Lx w B s r cm b) (g : W.grownBy w (some B)) :
    Calls Tryf.prog 64 #[.pointer (some ⟨B, 0, none⟩)] w fun e w' => e = .returned (tokV ((Pl.namedF s.size r).tok.kind : Int) 0 0 0 false (S (Pl.namedF s.size r).tok.text)) ∧
      (Lx w' B s (Pl.namedF s.size r).rest cm (b || (Pl.namedF s.size r).opn) ∧ W.grownBy w' (some B)) := by
  have hlt := h.blk.lt
  have hpr : (Pl.posN s.size r : Int) ≤ 1099511627776 := by have := posN_le s.size r; have := h.small; omega
  have hpq : (Pl.posN s.size (Pl.nameF r).2.1 : Int) ≤ 1099511627776 := by have := posN_le s.size (Pl.nameF r).2.1; have := h.small; omega
  have hr0 : r.length ≤ 1099511627776 := Nat.le_trans (encs_len_ge r) (Nat.le_trans h.le h.small)
  have hnl : (Pl.encs (Pl.nameF r).1).length ≤ 4398046511104 := by have := nameF_tlen _ r (Nat.le_refl _); omega
  by_cases h40 : Pl.pk (Pl.nameF r).2.1 0 = 40
  · have k40 : (Pl.pk (Pl.nameF r).2.1 0 != 40) = false := by simp [h40]
    have H40 := Lib.hid h40
    clear h40
    by_cases hu : Pl.isUrlB (Pl.encs (Pl.nameF r).1) = true
    · have HU := Lib.hid hu
      obtain ⟨r1, hr1⟩ : ∃ r1, r1 = (Pl.nameF r).2.1.tail := ⟨_, rfl⟩
      have HR1 := Lib.hid hr1
      have hr1l : r1.length ≤ 1099511627776 := by
        have := Pl.nameF_len _ r (Nat.le_refl _)
        rw [hr1, List.length_tail]; omega
      have hul : (Pl.encs (Pl.urlF (Pl.spF r1)).2.1).length ≤ 4398046511104 := by
        have := urlF_tlen _ (Pl.spF r1) (Nat.le_refl _)
        have := Pl.dropWhile_len (p := fun c => Pl.isSp (c : Int)) r1
        unfold Pl.spF at *
        omega
      clear hr1 hr1l hr0
      obtain ⟨bo, hbo⟩ : ∃ bo, bo = ((b || (Pl.nameF r).2.2) || (Pl.urlF (Pl.spF r1)).2.2.2) := ⟨_, rfl⟩
      have HBO := Lib.hid hbo
      clear hbo
      obtain ⟨sh, hsh⟩ : ∃ sh : Bool, (((Pl.posN s.size (Pl.nameF r).2.1 : Int) - (Pl.posN s.size r : Int)) == 3) = sh := ⟨_, rfl⟩
      have HSH := Lib.hid hsh
      have HD := Lib.hid (show decide ((Pl.posN s.size (Pl.nameF r).2.1 : Int) - Pl.posN s.size r = 3) = sh by rw [← hsh]; rfl)
      go_enter Tryf.func64, Tryf.ntmps64
      go_upto_region 1 with fail
      obtain ⟨R, hR⟩ : ∃ R, R = w.heap.size := ⟨_, rfl⟩
      rw [← hR]
      obtain ⟨W1, hW1⟩ : ∃ W1, W1 = w.alloc (.cells #[.int .i64 0, .int .i64 0, .int .i64 0, .int .i64 0, .bool false, .string ⟨#[]⟩] 25) := ⟨_, rfl⟩
      rw [← hW1]
      have HB : Hid (Boxed W1 R B) := Lib.hid ⟨by rw [hW1, hR]; exact Blk.new _ _ _, by omega⟩
      have h1 : Lx W1 B s r cm b := by rw [hW1]; exact h.keep (World.grownBy_alloc w _ none) (by simp)
      have HG : Hid (W.grownBy W1 (some B) ∧ W.heap.size ≤ R) := Lib.hid ⟨by rw [hW1]; exact gr_alloc g _, by rw [hR]; exact g.size⟩
      clear hW1 hR h g hlt
      have g1 := gr_refl W1 (some B)
      have c1 := h1.cell1
      go_wp2_with (first | (go_at_call 55; refine (peek_at (by assumption) _ (by omega) (by omega)).mono ?_; rintro e w' ⟨rfl, rfl⟩) | (go_at_call 48; refine (name_from (by assumption) (by assumption)).mono ?_; rintro e w' ⟨rfl, h', g'⟩; have bx := HB.out.at_ g'; have c1' := h'.cell1) | (go_at_call 56; refine (take_from (by assumption) (by assumption)).mono ?_; rintro e w' ⟨rfl, h', g'⟩; have bx := HB.out.at_ g'; have c1' := h'.cell1) | (go_at_call 45; refine (isURL_S _ _ (by assumption)).mono ?_; rintro e w' ⟨rfl, rfl⟩))
      have h2 := h'
      have g2 := g'
      have HH2 := Lib.hid h'
      rw [← HR1.out] at h2
      go_loopg [] r1.length (fun k wr => ∃ r', k = r'.length ∧ Lx wr B s r' cm (b || (Pl.nameF r).2.2) ∧ W1.grownBy wr (some B) ∧ Hid (Pl.spF r1 = Pl.spF r'))
      case atStart => exact ⟨r1, rfl, h2, g2, Lib.hid rfl⟩
      case round =>
        clear h1 g1 h2 g2 c1 bx c1'
        obtain ⟨r', rfl, h, g, HE⟩ := hrel
        by_cases hsp : Pl.isSp (Pl.pk r' 0) = true
        · have HS := Lib.hid hsp
          go_wp2_with (first | (go_at_call 55; refine (peek_at (by assumption) _ (by omega) (by omega)).mono ?_; rintro e w' ⟨rfl, rfl⟩) | (go_at_call 40; refine (isSpace_any _ _).mono ?_; rintro e w' ⟨rfl, rfl⟩) | (go_at_call 56; refine (take_from (by assumption) (by assumption)).mono ?_; rintro e w' ⟨rfl, h', g'⟩))
          go_roundg r'.tail.length
          case measure => exact Pl.tail_lt (Pl.isSp_ne_nil HS.out)
          case rel => exact ⟨r'.tail, rfl, by assumption, by assumption, Lib.hid (by rw [HE.out, Pl.spF_yes HS.out])⟩
        · have hsp : Pl.isSp (Pl.pk r' 0) = false := by simpa using hsp
          have ES := Lib.hid (show Pl.spF r1 = r' by rw [HE.out, Pl.spF_no hsp])
          clear HE
          by_cases e34 : Pl.pk r' 0 = 34
          · have k34 : (Pl.pk r' 0 != 34) = false := by simp [e34]
            have E := Lib.hid (namedF_fn (T := s.size) H40.out (Or.inr (Or.inl (by rw [← HR1.out, ES.out]; exact e34))))
            clear e34
            have c1 := h.cell1
            have f1 := h.free 1
            have bx := HB.out.at_ (gr_put g 1 (.int .i64 (Pl.posN s.size (Pl.nameF r).2.1.tail)))
            go_wp2_with (first | (go_at_call 55; refine (peek_at (by assumption) _ (by omega) (by omega)).mono ?_; rintro e w' ⟨rfl, rfl⟩) | (go_at_call 40; refine (isSpace_any _ _).mono ?_; rintro e w' ⟨rfl, rfl⟩))
            refine bodyPost_ret (v := tokV 27 0 0 0 false (S (Pl.encs (Pl.nameF r).1))) (by simp [results, Tryf.results64, go_sem, tokV, bx]) rfl ⟨by rw [E.out]; rfl, Lx.cast (Lx.tok (Lx.back h HH2.out) HB.out.ne) (by rw [E.out]) (by rw [E.out]), gr_tok (gr_trans HG.out.1 (gr_put g _ _)) HG.out.2⟩
          · have k34 : (Pl.pk r' 0 != 34) = true := by simp [e34]
            by_cases e39 : Pl.pk r' 0 = 39
            · have k39 : (Pl.pk r' 0 != 39) = false := by simp [e39]
              have E := Lib.hid (namedF_fn (T := s.size) H40.out (Or.inr (Or.inr (by rw [← HR1.out, ES.out]; exact e39))))
              clear e34 e39
              have c1 := h.cell1
              have f1 := h.free 1
              have bx := HB.out.at_ (gr_put g 1 (.int .i64 (Pl.posN s.size (Pl.nameF r).2.1.tail)))
              go_wp2_with (first | (go_at_call 55; refine (peek_at (by assumption) _ (by omega) (by omega)).mono ?_; rintro e w' ⟨rfl, rfl⟩) | (go_at_call 40; refine (isSpace_any _ _).mono ?_; rintro e w' ⟨rfl, rfl⟩))
              refine bodyPost_ret (v := tokV 27 0 0 0 false (S (Pl.encs (Pl.nameF r).1))) (by simp [results, Tryf.results64, go_sem, tokV, bx]) rfl ⟨by rw [E.out]; rfl, Lx.cast (Lx.tok (Lx.back h HH2.out) HB.out.ne) (by rw [E.out]) (by rw [E.out]), gr_tok (gr_trans HG.out.1 (gr_put g _ _)) HG.out.2⟩
            · have k39 : (Pl.pk r' 0 != 39) = true := by simp [e39]
              have E := Lib.hid (namedF_url (T := s.size) H40.out HU.out (by rw [← HR1.out, ES.out]; exact e34) (by rw [← HR1.out, ES.out]; exact e39))
              have ER : r' = Pl.spF r1 := ES.out.symm
              subst ER
              clear e34 e39 ES
              cases bo with
              | true =>
                go_wp2_with (first | (go_at_call 55; refine (peek_at (by assumption) _ (by omega) (by omega)).mono ?_; rintro e w' ⟨rfl, rfl⟩) | (go_at_call 40; refine (isSpace_any _ _).mono ?_; rintro e w' ⟨rfl, rfl⟩) | (go_at_call 85; refine (url_from (by assumption) (by assumption)).mono ?_; rintro e w' ⟨rfl, h', g'⟩; have h' := h'.cast rfl HBO.out.symm; have bx := HB.out.at_ g'; have c3 := h'.cell3; have f3 := h'.free 3; have hBl := h'.blk.lt; have hRl := (HB.out.blk.grown g' (fun e => HB.out.ne (by injection e))).lt; have hRB := HB.out.ne) | (go_at_call 25; refine (Trimmed_S _ _ (by assumption)).mono ?_; rintro e w' ⟨rfl, rfl⟩))
                refine bodyPost_ret (v := tokV ((Pl.urlF (Pl.spF r1)).1 : Int) 0 0 0 false (S (Pl.encs (Pl.urlF (Pl.spF r1)).2.1))) (by simp [results, Tryf.results64, go_sem, tokV, bx, hRl]) rfl ⟨by rw [E.out, ← HR1.out], Lx.cast (Lx.alloc (Lx.tok (Lx.openTo h' _) HB.out.ne) _) (by rw [E.out, ← HR1.out]) (by rw [E.out, ← HR1.out]; simp only []; rw [opn_eq _ _ _ _ _ _ HBO.out, HD.out]; simp), gr_alloc (gr_tok (gr_trans HG.out.1 (gr_put g' _ _)) HG.out.2) _⟩
              | false =>
                cases sh with
                | false =>
                  go_wp2_with (first | (go_at_call 55; refine (peek_at (by assumption) _ (by omega) (by omega)).mono ?_; rintro e w' ⟨rfl, rfl⟩) | (go_at_call 40; refine (isSpace_any _ _).mono ?_; rintro e w' ⟨rfl, rfl⟩) | (go_at_call 85; refine (url_from (by assumption) (by assumption)).mono ?_; rintro e w' ⟨rfl, h', g'⟩; have h' := h'.cast rfl HBO.out.symm; have bx := HB.out.at_ g'; have c3 := h'.cell3; have f3 := h'.free 3; have hBl := h'.blk.lt; have hRl := (HB.out.blk.grown g' (fun e => HB.out.ne (by injection e))).lt; have hRB := HB.out.ne) | (go_at_call 25; refine (Trimmed_S _ _ (by assumption)).mono ?_; rintro e w' ⟨rfl, rfl⟩))
                  refine bodyPost_ret (v := tokV ((Pl.urlF (Pl.spF r1)).1 : Int) 0 0 0 false (S (Pl.encs (Pl.urlF (Pl.spF r1)).2.1))) (by simp [results, Tryf.results64, go_sem, tokV, bx, hRl]) rfl ⟨by rw [E.out, ← HR1.out], Lx.cast (Lx.alloc (Lx.tok (Lx.openTo h' _) HB.out.ne) _) (by rw [E.out, ← HR1.out]) (by rw [E.out, ← HR1.out]; simp only []; rw [opn_eq _ _ _ _ _ _ HBO.out, HD.out]; simp), gr_alloc (gr_tok (gr_trans HG.out.1 (gr_put g' _ _)) HG.out.2) _⟩
                | true =>
                  go_wp2_with (first | (go_at_call 55; refine (peek_at (by assumption) _ (by omega) (by omega)).mono ?_; rintro e w' ⟨rfl, rfl⟩) | (go_at_call 40; refine (isSpace_any _ _).mono ?_; rintro e w' ⟨rfl, rfl⟩) | (go_at_call 85; refine (url_from (by assumption) (by assumption)).mono ?_; rintro e w' ⟨rfl, h', g'⟩; have h' := h'.cast rfl HBO.out.symm; have bx := HB.out.at_ g'; have c3 := h'.cell3; have f3 := h'.free 3; have hBl := h'.blk.lt; have hRl := (HB.out.blk.grown g' (fun e => HB.out.ne (by injection e))).lt; have hRB := HB.out.ne) | (go_at_call 25; refine (Trimmed_S _ _ (by assumption)).mono ?_; rintro e w' ⟨rfl, rfl⟩))
                  refine bodyPost_ret (v := tokV ((Pl.urlF (Pl.spF r1)).1 : Int) 0 0 0 false (S (Pl.encs (Pl.urlF (Pl.spF r1)).2.1))) (by simp [results, Tryf.results64, go_sem, tokV, bx, hRl]) rfl ⟨by rw [E.out, ← HR1.out], Lx.cast (Lx.alloc (Lx.tok (Lx.openTo h' _) HB.out.ne) _) (by rw [E.out, ← HR1.out]) (by rw [E.out, ← HR1.out]; simp only []; rw [opn_eq _ _ _ _ _ _ HBO.out, HD.out]; simp), gr_alloc (gr_tok (gr_trans HG.out.1 (gr_put g' _ _)) HG.out.2) _⟩
    · have hu : Pl.isUrlB (Pl.encs (Pl.nameF r).1) = false := by simpa using hu
      have E := Lib.hid (namedF_fn (T := s.size) H40.out (Or.inl hu))
      go_enter Tryf.func64, Tryf.ntmps64
      go_upto_region 1 with fail
      obtain ⟨R, hR⟩ : ∃ R, R = w.heap.size := ⟨_, rfl⟩
      rw [← hR]
      obtain ⟨W1, hW1⟩ : ∃ W1, W1 = w.alloc (.cells #[.int .i64 0, .int .i64 0, .int .i64 0, .int .i64 0, .bool false, .string ⟨#[]⟩] 25) := ⟨_, rfl⟩
      rw [← hW1]
      have HB : Hid (Boxed W1 R B) := Lib.hid ⟨by rw [hW1, hR]; exact Blk.new _ _ _, by omega⟩
      have h1 : Lx W1 B s r cm b := by rw [hW1]; exact h.keep (World.grownBy_alloc w _ none) (by simp)
      have HG : Hid (W.grownBy W1 (some B) ∧ W.heap.size ≤ R) := Lib.hid ⟨by rw [hW1]; exact gr_alloc g _, by rw [hR]; exact g.size⟩
      clear hW1 hR h g hlt
      have g1 := gr_refl W1 (some B)
      have c1 := h1.cell1
      go_wp2_with (first | (go_at_call 55; refine (peek_at (by assumption) _ (by omega) (by omega)).mono ?_; rintro e w' ⟨rfl, rfl⟩) | (go_at_call 48; refine (name_from (by assumption) (by assumption)).mono ?_; rintro e w' ⟨rfl, h', g'⟩; have bx := HB.out.at_ g'; have c1' := h'.cell1) | (go_at_call 56; refine (take_from (by assumption) (by assumption)).mono ?_; rintro e w' ⟨rfl, h', g'⟩; have bx := HB.out.at_ g'; have c1' := h'.cell1) | (go_at_call 45; refine (isURL_S _ _ (by assumption)).mono ?_; rintro e w' ⟨rfl, rfl⟩))
      refine bodyPost_ret (v := tokV 27 0 0 0 false (S (Pl.encs (Pl.nameF r).1))) (by simp [results, Tryf.results64, go_sem, tokV, bx]) rfl ⟨by rw [E.out]; rfl, Lx.cast (Lx.tok (by assumption) HB.out.ne) (by rw [E.out]) (by rw [E.out]), gr_tok (gr_trans HG.out.1 g') HG.out.2⟩
  · have k40 : (Pl.pk (Pl.nameF r).2.1 0 != 40) = true := by simp [h40]
    have E := Lib.hid (namedF_id (T := s.size) h40)
    clear h40
    go_enter Tryf.func64, Tryf.ntmps64
    go_upto_region 1 with fail
    obtain ⟨R, hR⟩ : ∃ R, R = w.heap.size := ⟨_, rfl⟩
    rw [← hR]
    obtain ⟨W1, hW1⟩ : ∃ W1, W1 = w.alloc (.cells #[.int .i64 0, .int .i64 0, .int .i64 0, .int .i64 0, .bool false, .string ⟨#[]⟩] 25) := ⟨_, rfl⟩
    rw [← hW1]
    have HB : Hid (Boxed W1 R B) := Lib.hid ⟨by rw [hW1, hR]; exact Blk.new _ _ _, by omega⟩
    have h1 : Lx W1 B s r cm b := by rw [hW1]; exact h.keep (World.grownBy_alloc w _ none) (by simp)
    have HG : Hid (W.grownBy W1 (some B) ∧ W.heap.size ≤ R) := Lib.hid ⟨by rw [hW1]; exact gr_alloc g _, by rw [hR]; exact g.size⟩
    clear hW1 hR h g hlt
    have g1 := gr_refl W1 (some B)
    have c1 := h1.cell1
    go_wp2_with (first | (go_at_call 55; refine (peek_at (by assumption) _ (by omega) (by omega)).mono ?_; rintro e w' ⟨rfl, rfl⟩) | (go_at_call 48; refine (name_from (by assumption) (by assumption)).mono ?_; rintro e w' ⟨rfl, h', g'⟩; have bx := HB.out.at_ g'; have c1' := h'.cell1) | (go_at_call 56; refine (take_from (by assumption) (by assumption)).mono ?_; rintro e w' ⟨rfl, h', g'⟩; have bx := HB.out.at_ g'; have c1' := h'.cell1) | (go_at_call 45; refine (isURL_S _ _ (by assumption)).mono ?_; rintro e w' ⟨rfl, rfl⟩))
    refine bodyPost_ret (v := tokV 29 0 0 0 false (S (Pl.encs (Pl.nameF r).1))) (by simp [results, Tryf.results64, go_sem, tokV, bx]) rfl ⟨by rw [E.out]; rfl, Lx.cast (Lx.tok (by assumption) HB.out.ne) (by rw [E.out]) (by rw [E.out]), gr_tok (gr_trans HG.out.1 g') HG.out.2⟩

end Go.Proofs.YtmomkkakjkkakaaFmt
