/-
  PLAIN LEAN, no program in sight: a text that is one string, or one identifier, by the standard, is decoded by the package's decoder as what it means.
-/
import Derived.Test.YtmomkkakjkkakaaDoorRead
set_option linter.unusedVariables false
set_option linter.unusedSimpArgs false
namespace Go.Proofs.YtmomkkakjkkakaaDoor.Pl
open Go

theorem pk_app {t : List Nat} (h : t ≠ []) (X : List Nat) : pk (t ++ X) 0 = pk t 0 := by
  cases t with
  | nil => exact absurd rfl h
  | cons a b => rfl
theorem hexN_app {q : Nat} (hq : hexv (q : Int) < 0) : ∀ (k : Nat) (v : Int) (t : List Nat), hexN k v (t ++ [q]) = ((hexN k v t).1, (hexN k v t).2 ++ [q])
  | 0, v, t => by simp [hexN]
  | k + 1, v, [] => by simp only [List.nil_append, hexN]; rw [if_neg (by omega)]
  | k + 1, v, c :: t => by
    simp only [List.cons_append, hexN]
    split
    · exact hexN_app hq k _ t
    · rfl
theorem tail_app {t : List Nat} (h : t ≠ []) (X : List Nat) : (t ++ X).tail = t.tail ++ X := by
  cases t with
  | nil => exact absurd rfl h
  | cons a b => rfl
/-- what stands behind a backslash is read alike, whether a quote follows or the end -/
theorem escF_app {q : Nat} (hq : q = 34 ∨ q = 39) {t : List Nat} (h : t ≠ []) (ho : (escF (t ++ [q])).2.2 = false) :
    escF (t ++ [q]) = ((escF t).1, (escF t).2.1 ++ [q], false) ∧ (escF t).2.2 = false := by
  have hq0 : hexv (q : Int) < 0 := by rcases hq with rfl | rfl <;> decide
  have hqs : isSp (q : Int) = false ∧ isNl (q : Int) = false := by rcases hq with rfl | rfl <;> decide
  unfold escF at ho ⊢
  rw [pk_app h] at ho ⊢
  by_cases hx : hexv (pk t 0) < 0
  · rw [if_pos hx] at ho ⊢
    rw [if_pos hx]
    cases t with
    | nil => exact absurd rfl h
    | cons c t => simp
  · rw [if_neg hx] at ho ⊢
    rw [if_neg hx]
    rw [hexN_app hq0] at ho ⊢
    simp only at ho ⊢
    by_cases hu : (hexN 6 0 t).2 = []
    · rw [hu] at ho ⊢
      simp only [List.nil_append, pk_cons, hqs.1, hqs.2, pk_nil] at ho ⊢
      simp [isNl, isSp]
    · rw [pk_app hu] at ho ⊢
      by_cases hn : isNl (pk (hexN 6 0 t).2 0) = true
      · rw [if_pos hn] at ho; simp at ho
      · rw [if_neg hn] at ho ⊢
        rw [if_neg hn]
        by_cases hs : isSp (pk (hexN 6 0 t).2 0) = true
        · rw [if_pos hs, if_pos hs, tail_app hu]; exact ⟨rfl, rfl⟩
        · rw [if_neg hs, if_neg hs]; exact ⟨rfl, rfl⟩

theorem string_dec {q : Nat} (hq : q = 34 ∨ q = 39) (n : Nat) : ∀ (ri txt : List Nat), ri.length ≤ n → quotF q (ri ++ [q]) = (36, txt, [], false) → decF ri = txt := by
  have hq9 : (q : Int) ≠ 92 := by omega
  have hqn : isNl (q : Int) = false := by rcases hq with rfl | rfl <;> decide
  induction n with
  | zero =>
    intro ri txt hl h
    have : ri = [] := List.eq_nil_of_length_eq_zero (by omega)
    subst this
    rw [List.nil_append, quotF_end (by simp) (by rw [pk_cons])] at h
    rw [decF_nil]
    simp only [Prod.mk.injEq] at h
    exact h.2.1
  | succ n ih =>
    intro ri txt hl h
    cases ri with
    | nil =>
      rw [List.nil_append, quotF_end (by simp) (by rw [pk_cons])] at h
      rw [decF_nil]
      simp only [Prod.mk.injEq] at h
      exact h.2.1
    | cons c t =>
      simp only [List.length_cons] at hl
      rw [List.cons_append] at h
      by_cases h1 : (c : Int) = q
      · rw [quotF_end (by simp) (by rw [pk_cons]; exact h1)] at h
        simp at h
      by_cases h2 : isNl (c : Int) = true
      · rw [quotF_nl (by simp) (by rw [pk_cons]; exact h1) (by rw [pk_cons]; exact h2)] at h
        simp at h
      have h2 : isNl (c : Int) = false := by simpa using h2
      by_cases h3 : (c : Int) = 92
      · have hc : c = 92 := by omega
        subst hc
        cases t with
        | nil =>
          rw [List.nil_append, quotF_esc (by simp) (by rw [pk_cons]; exact h1) (by rw [pk_cons]; exact h2) (by rfl) (by rw [pk_cons1, pk_cons]; omega) (by rw [pk_cons1, pk_cons]; exact hqn)] at h
          have e1 : escF [q] = (q, [], false) := by unfold escF; rw [if_pos (by rw [pk_cons]; rcases hq with rfl | rfl <;> decide)]
          simp only [List.tail_cons, e1, quotF_nil] at h
          simp at h
        | cons d t =>
          have p1 : pk (92 :: (d :: t ++ [q])) 1 = (d : Int) := rfl
          by_cases h5 : isNl (d : Int) = true
          · rw [quotF_cont (by simp) (by rw [pk_cons]; exact h1) (by rw [pk_cons]; exact h2) (by rfl) (by rw [p1]; omega) (by rw [p1]; exact h5)] at h
            have hd : d = 10 ∨ d = 13 ∨ d = 12 := by simp only [isNl, decide_eq_true_eq] at h5; omega
            simp only [List.tail_cons, List.cons_append, List.length_cons] at h hl
            by_cases h13 : d = 13
            · subst h13
              by_cases h10 : pk t 0 = 10
              · obtain ⟨t', rfl⟩ : ∃ t', t = 10 :: t' := by
                  cases t with
                  | nil => simp [pk] at h10
                  | cons a b => rw [pk_cons] at h10; exact ⟨b, by rw [show a = 10 by omega]⟩
                rw [decF_crlf (by simp) (by rfl) (by rfl) (by rfl)]
                have e1 : nlF (13 :: (10 :: t' ++ [q])) = t' ++ [q] := by unfold nlF; rw [if_pos ⟨rfl, rfl⟩]; rfl
                rw [e1] at h
                exact ih t' txt (by simp only [List.length_cons] at hl; omega) h
              · rw [decF_cr (by simp) (by rfl) (by rfl) (by exact h10)]
                have e1 : nlF (13 :: (t ++ [q])) = t ++ [q] := by
                  unfold nlF
                  rw [if_neg]
                  · rfl
                  · rintro ⟨_, e⟩
                    rw [pk_cons1] at e
                    cases t with
                    | nil => rw [List.nil_append, pk_cons] at e; omega
                    | cons a b => rw [List.cons_append, pk_cons] at e; rw [pk_cons] at h10; exact h10 e
                rw [e1] at h
                exact ih t txt (by omega) h
            · rw [decF_nl (by simp) (by rfl) (by show (d : Int) ≠ -1; omega) (by show hexv (d : Int) < 0; rcases hd with rfl | rfl | rfl <;> decide) (by show (d : Int) = 10 ∨ (d : Int) = 12; omega)]
              have e1 : nlF (d :: (t ++ [q])) = t ++ [q] := by
                unfold nlF
                rw [if_neg (by rintro ⟨e, _⟩; rw [pk_cons] at e; omega)]
                rfl
              rw [e1] at h
              exact ih t txt (by omega) h
          · have h5 : isNl (d : Int) = false := by simpa using h5
            rw [quotF_esc (by simp) (by rw [pk_cons]; exact h1) (by rw [pk_cons]; exact h2) (by rfl) (by rw [p1]; omega) (by rw [p1]; exact h5)] at h
            rw [List.tail_cons] at h
            simp only [Prod.mk.injEq, Bool.or_eq_false_iff] at h
            obtain ⟨k1, k2, k3, k4, k5⟩ := h
            obtain ⟨e1, e2⟩ := escF_app hq (t := d :: t) (by simp) k4
            rw [decF_esc (by simp) (by rfl) (by rw [pk_cons1, pk_cons]; exact h5) (by rw [List.tail_cons]; exact e2), List.tail_cons]
            have hle := escF_len (d :: t)
            rw [e1] at k1 k2 k3 k5
            simp only at k1 k2 k3 k5
            rw [if_pos k1] at k2
            have hq2 : quotF q ((escF (d :: t)).2.1 ++ [q]) = (36, (quotF q ((escF (d :: t)).2.1 ++ [q])).2.1, [], false) := by
              refine Prod.ext k1 (Prod.ext rfl (Prod.ext k3 k5))
            rw [ih _ _ (by simp only [List.length_cons] at hle hl; omega) hq2, ← k2]
            rfl
      · rw [quotF_char (by simp) (by rw [pk_cons]; exact h1) (by rw [pk_cons]; exact h2) (by rw [pk_cons]; exact h3)] at h
        rw [List.tail_cons, pk_cons] at h
        simp only [Prod.mk.injEq] at h
        obtain ⟨k1, k2, k3, k4⟩ := h
        rw [if_pos k1] at k2
        rw [decF_char (by simp) (by rw [pk_cons]; exact h3), List.tail_cons, pk_cons]
        have hq2 : quotF q (t ++ [q]) = (36, (quotF q (t ++ [q])).2.1, [], false) := Prod.ext k1 (Prod.ext rfl (Prod.ext k3 k4))
        rw [ih t _ (by omega) hq2, ← k2]
        rfl

theorem name_dec (n : Nat) : ∀ (r txt : List Nat), r.length ≤ n → nameF r = (txt, [], false) → decF r = txt := by
  induction n with
  | zero =>
    intro r txt hl h
    have : r = [] := List.eq_nil_of_length_eq_zero (by omega)
    subst this
    rw [nameF_nil] at h
    rw [decF_nil]
    exact congrArg Prod.fst h
  | succ n ih =>
    intro r txt hl h
    by_cases h1 : contsB (pk r 0) = true
    · have hne := contsB_ne_nil h1
      have ht := tail_lt hne
      rw [nameF_conts h1] at h
      simp only [Prod.mk.injEq] at h
      have hc : pk r 0 ≠ 92 := by intro e; rw [e] at h1; exact absurd h1 (by decide)
      rw [decF_char hne hc, ih r.tail _ (by omega) (Prod.ext rfl (Prod.ext h.2.1 h.2.2)), ← h.1]
    · have h1 : contsB (pk r 0) = false := by simpa using h1
      by_cases h2 : escB (pk r 0) (pk r 1) = true
      · have hne := escB_ne_nil h2
        have ht := tail_lt hne
        have he := escF_len r.tail
        rw [nameF_esc h1 h2] at h
        simp only [Prod.mk.injEq, Bool.or_eq_false_iff] at h
        obtain ⟨k1, k2, k3, k4⟩ := h
        simp only [escB, Bool.and_eq_true, decide_eq_true_eq, Bool.not_eq_true'] at h2
        rw [decF_esc hne h2.1 h2.2 k3, ih _ _ (by omega) (Prod.ext rfl (Prod.ext k2 k4)), ← k1]
      · rw [nameF_done h1 (by simpa using h2)] at h
        simp only [Prod.mk.injEq] at h
        obtain ⟨rfl, rfl, _⟩ := h
        exact decF_nil

/-! ## one token alone -/
theorem ite_ne {p : Prop} [Decidable p] {a b k : Nat} (ha : a ≠ k) (hb : b ≠ k) : (if p then a else b) ≠ k := by
  by_cases h : p
  · rw [if_pos h]; exact ha
  · rw [if_neg h]; exact hb
theorem signK_zero (c : Int) : signK c ≠ 0 := by 
  unfold signK
  (repeat (refine ite_ne (by decide) ?_))
  decide
theorem signK_ident (c : Int) : signK c ≠ 29 := by 
  unfold signK
  (repeat (refine ite_ne (by decide) ?_))
  decide
theorem quotF_kind (q : Nat) (n : Nat) : ∀ r : List Nat, r.length ≤ n → (quotF q r).1 = 36 ∨ (quotF q r).1 = 2 := by
  induction n with
  | zero => intro r hl; have : r = [] := List.eq_nil_of_length_eq_zero (by omega); subst this; rw [quotF_nil]; simp
  | succ n ih =>
    intro r hl
    by_cases a0 : r = []
    · subst a0; rw [quotF_nil]; simp
    have ht := tail_lt a0
    by_cases a1 : pk r 0 = q
    · rw [quotF_end a0 a1]; simp
    by_cases a2 : isNl (pk r 0) = true
    · rw [quotF_nl a0 a1 a2]; simp
    have a2 : isNl (pk r 0) = false := by simpa using a2
    by_cases a3 : pk r 0 = 92
    · by_cases a4 : pk r 1 = -1
      · rw [quotF_last a0 a1 a2 a3 a4]; exact ih _ (by omega)
      by_cases a5 : isNl (pk r 1) = true
      · rw [quotF_cont a0 a1 a2 a3 a4 a5]; have := nlF_len r.tail; exact ih _ (by omega)
      · rw [quotF_esc a0 a1 a2 a3 a4 (by simpa using a5)]; have := escF_len r.tail; exact ih _ (by omega)
    · rw [quotF_char a0 a1 a2 a3]; exact ih _ (by omega)
theorem urlF_kind (n : Nat) : ∀ r : List Nat, r.length ≤ n → (urlF r).1 = 37 ∨ (urlF r).1 = 3 := by
  induction n with
  | zero => intro r hl; have : r = [] := List.eq_nil_of_length_eq_zero (by omega); subst this; rw [urlF_nil]; simp
  | succ n ih =>
    intro r hl
    by_cases a0 : r = []
    · subst a0; rw [urlF_nil]; simp
    have ht := tail_lt a0
    by_cases a1 : pk r 0 = 41
    · rw [urlF_end a0 a1]; simp
    by_cases a2 : isSp (pk r 0) = true
    · by_cases a3 : pk (spF r) 0 ≠ 41 ∧ pk (spF r) 0 ≠ -1
      · rw [urlF_spbad a0 a1 a2 a3]; simp
      · rw [urlF_sp a0 a1 a2 a3]
        have h3 := dropWhile_len (p := fun c => isSp (c : Int)) r.tail
        refine ih _ ?_
        rw [spF_yes a2]
        unfold spF; omega
    have a2 : isSp (pk r 0) = false := by simpa using a2
    by_cases a3 : urlBad (pk r 0) (pk r 1) = true
    · rw [urlF_bad a0 a1 a2 a3]; simp
    have a3 : urlBad (pk r 0) (pk r 1) = false := by simpa using a3
    by_cases a4 : pk r 0 = 92
    · rw [urlF_esc a0 a1 a2 a3 a4]; have := escF_len r.tail; exact ih _ (by omega)
    · rw [urlF_char a0 a1 a2 a3 a4]; exact ih _ (by omega)
/-- kinds that no token bears but an identifier, or the end -/
theorem numericF_kind (T : Nat) (r : List Nat) : (numericF T r).tok.kind ≠ 0 ∧ (numericF T r).tok.kind ≠ 29 := by
  unfold numericF
  by_cases c1 : idB (pk (num4 r) 0) (pk (num4 r) 1) (pk (num4 r) 2) = true
  · rw [if_pos c1]; exact ⟨fun h => by have h' : (26 : Nat) = 0 := h; omega, fun h => by have h' : (26 : Nat) = 29 := h; omega⟩
  · rw [if_neg c1]
    by_cases c2 : pk (num4 r) 0 = 37
    · rw [if_pos c2]; exact ⟨fun h => by have h' : (34 : Nat) = 0 := h; omega, fun h => by have h' : (34 : Nat) = 29 := h; omega⟩
    · rw [if_neg c2]; exact ⟨fun h => by have h' : (30 : Nat) = 0 := h; omega, fun h => by have h' : (30 : Nat) = 29 := h; omega⟩
theorem namedF_kind (T : Nat) (r : List Nat) : (namedF T r).tok.kind ≠ 0 ∧ ((namedF T r).tok.kind = 29 → namedF T r = { tok := { kind := 29, text := encs (nameF r).1 }, rest := (nameF r).2.1, opn := (nameF r).2.2 }) := by
  unfold namedF
  by_cases c1 : pk (nameF r).2.1 0 ≠ 40
  · rw [if_pos c1]; exact ⟨fun h => by have h' : (29 : Nat) = 0 := h; omega, fun _ => rfl⟩
  · rw [if_neg c1]
    by_cases c2 : isUrlB (encs (nameF r).1) = true ∧ pk (spF (nameF r).2.1.tail) 0 ≠ 34 ∧ pk (spF (nameF r).2.1.tail) 0 ≠ 39
    · rw [if_pos c2]
      have hk := urlF_kind _ (spF (nameF r).2.1.tail) (Nat.le_refl _)
      exact ⟨fun h => by have h' : (urlF (spF (nameF r).2.1.tail)).1 = 0 := h; omega, fun h => by have h' : (urlF (spF (nameF r).2.1.tail)).1 = 29 := h; omega⟩
    · rw [if_neg c2]; exact ⟨fun h => by have h' : (27 : Nat) = 0 := h; omega, fun h => by have h' : (27 : Nat) = 29 := h; omega⟩
theorem nextF_kind {T : Nat} {r : List Nat} (h0 : ¬ pk r 0 = -1) : (nextF T r).tok.kind ≠ 0 ∧ ((nextF T r).tok.kind = 29 → nextF T r = { tok := { kind := 29, text := encs (nameF r).1 }, rest := (nameF r).2.1, opn := (nameF r).2.2 }) := by
  unfold nextF
  rw [if_neg h0]
  by_cases c1 : isSp (pk r 0) = true
  · rw [if_pos c1]; exact ⟨fun h => by have h' : (38 : Nat) = 0 := h; omega, fun h => by have h' : (38 : Nat) = 29 := h; omega⟩
  rw [if_neg c1]
  by_cases c2 : pk r 0 = 34 ∨ pk r 0 = 39
  · rw [if_pos c2]
    have hk := quotF_kind (pk r 0).toNat _ r.tail (Nat.le_refl _)
    exact ⟨fun h => by have h' : (quotF (pk r 0).toNat r.tail).1 = 0 := h; omega, fun h => by have h' : (quotF (pk r 0).toNat r.tail).1 = 29 := h; omega⟩
  rw [if_neg c2]
  by_cases c3 : pk r 0 = 35 ∧ (contsB (pk r 1) = true ∨ escB (pk r 1) (pk r 2) = true)
  · rw [if_pos c3]; exact ⟨fun h => by have h' : (28 : Nat) = 0 := h; omega, fun h => by have h' : (28 : Nat) = 29 := h; omega⟩
  rw [if_neg c3]
  by_cases c4 : cntB (pk r 0) (pk r 1) (pk r 2) = true
  · rw [if_pos c4]; exact ⟨(numericF_kind T r).1, fun h => absurd h (numericF_kind T r).2⟩
  rw [if_neg c4]
  by_cases c5 : pk r 0 = 45 ∧ pk r 1 = 45 ∧ pk r 2 = 62
  · rw [if_pos c5]; exact ⟨fun h => by have h' : (4 : Nat) = 0 := h; omega, fun h => by have h' : (4 : Nat) = 29 := h; omega⟩
  rw [if_neg c5]
  by_cases c6 : idB (pk r 0) (pk r 1) (pk r 2) = true
  · rw [if_pos c6]; exact namedF_kind T r
  rw [if_neg c6]
  by_cases c7 : pk r 0 = 60 ∧ pk r 1 = 33 ∧ pk r 2 = 45 ∧ pk r 3 = 45
  · rw [if_pos c7]; exact ⟨fun h => by have h' : (5 : Nat) = 0 := h; omega, fun h => by have h' : (5 : Nat) = 29 := h; omega⟩
  rw [if_neg c7]
  by_cases c8 : pk r 0 = 64 ∧ idB (pk r 1) (pk r 2) (pk r 3) = true
  · rw [if_pos c8]; exact ⟨fun h => by have h' : (1 : Nat) = 0 := h; omega, fun h => by have h' : (1 : Nat) = 29 := h; omega⟩
  rw [if_neg c8]
  exact ⟨signK_zero _, fun h => absurd h (signK_ident _)⟩

theorem toks_end {T f : Nat} {r : List Nat} {b : Bool} (h : toksG T (f + 1) r = ([], 0, b)) : r = [] := by
  rw [toksG] at h
  split at h
  · rename_i hk
    simp only [Prod.mk.injEq, true_and] at h
    have hc : ¬ (pk r 0 = 47 ∧ pk r 1 = 42) := by
      intro hc
      cases hs : skipC (r.drop 2) with
      | none => rw [comF_open hc hs] at h; simp at h
      | some t => rw [comF_more hc hs] at h; simp at h
    rw [comF_no hc] at hk
    simp only at hk
    by_cases h0 : pk r 0 = -1
    · exact pk_end h0
    · exact absurd hk (nextF_kind h0).1
  · simp at h
/-- a text that is one token: no comment ahead of it, and nothing behind it -/
theorem toks_single {r : List Nat} {t : Tok} (h : toksF r = ([t], 0, false)) :
    ¬ (pk r 0 = 47 ∧ pk r 1 = 42) ∧ (nextF (encs r).length r).rest = [] ∧ (nextF (encs r).length r).opn = false ∧ t.kind = (nextF (encs r).length r).tok.kind ∧ t.text = (nextF (encs r).length r).tok.text ∧ t.kind ≠ 0 := by
  unfold toksF at h
  rw [toksG] at h
  split at h
  · simp at h
  · rename_i hk
    simp only [Prod.mk.injEq, Bool.or_eq_false_iff, List.cons.injEq] at h
    obtain ⟨⟨h1, h2⟩, h3, ⟨⟨h4, h5⟩, h6⟩⟩ := h
    have hc : ¬ (pk r 0 = 47 ∧ pk r 1 = 42) := by
      intro hc
      cases hs : skipC (r.drop 2) with
      | none => rw [comF_open hc hs] at h3; simp at h3
      | some t => rw [comF_more hc hs] at h3; simp at h3
    rw [comF_no hc] at h1 h2 h3 h5 h6 hk
    simp only [Nat.zero_add] at h1 h2 h3 h5 h6 hk
    obtain ⟨n, hn⟩ : ∃ n, r.length = n + 1 := by
      cases r with
      | nil => exact absurd rfl hk
      | cons a b => exact ⟨b.length, rfl⟩
    rw [hn] at h2 h3 h6
    have he := toks_end (b := false) (Prod.ext h2 (Prod.ext h3 h6))
    subst h1
    exact ⟨hc, he, h5, rfl, rfl, hk⟩
theorem single_string {ri : List Nat} {t : Tok} (h : toksF (34 :: (ri ++ [34])) = ([t], 0, false)) (hk : t.kind = 36) : t.text = encs (decF ri) := by
  obtain ⟨_, h1, h2, h3, h4, _⟩ := toks_single h
  have e : ∀ T, nextF T (34 :: (ri ++ [34])) = { tok := { kind := (quotF 34 (ri ++ [34])).1, text := encs (quotF 34 (ri ++ [34])).2.1 }, rest := (quotF 34 (ri ++ [34])).2.2.1, opn := (quotF 34 (ri ++ [34])).2.2.2 } := by
    intro T
    unfold nextF
    rw [if_neg (by rw [pk_cons]; decide), if_neg (by rw [pk_cons]; decide), if_pos (.inl rfl)]
    rfl
  rw [e] at h1 h2 h3 h4
  simp only at h1 h2 h3 h4
  rw [h4, string_dec (.inl rfl) _ ri _ (Nat.le_refl _) (Prod.ext (h3.symm.trans hk) (Prod.ext rfl (Prod.ext h1 h2)))]
theorem single_ident {r : List Nat} {t : Tok} (h : toksF r = ([t], 0, false)) (hk : t.kind = 29) : t.text = encs (decF r) := by
  obtain ⟨_, h1, h2, h3, h4, h5⟩ := toks_single h
  by_cases h0 : pk r 0 = -1
  · have := pk_end h0
    subst this
    exact absurd h3 h5
  have key := (nextF_kind (T := (encs r).length) h0).2 (h3.symm.trans hk)
  rw [key] at h1 h2 h4
  simp only at h1 h2 h4
  rw [h4, name_dec _ r _ (Nat.le_refl _) (Prod.ext rfl (Prod.ext h1 h2))]
end Go.Proofs.YtmomkkakjkkakaaDoor.Pl
