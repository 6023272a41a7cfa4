/-
  PLAIN LEAN, no program in sight: identifiers, strings and addresses as the printer writes them, as lists of code points; each is read by the standard as what was meant.
-/
import Derived.Test.YtmomkkakjkkakaaFmtRead
set_option linter.unusedVariables false
set_option linter.unusedSimpArgs false
namespace Go.Proofs.YtmomkkakjkkakaaFmt.Pl
open Go

/-! ## identifiers -/
def wouldStart (r : List Nat) : Bool := startsB (pk r 0) || (decide (pk r 0 = 45) && (startsB (pk r 1) || decide (pk r 1 = 45)))
/-- how the first sign is escaped (0: not at all) -/
def initE (mode : Nat) (r : List Nat) : Nat :=
  if mode = 1 then 0 else if wouldStart r = false then 1 else if mode = 0 then 0
  else if (pk r 0 = 101 ∨ pk r 0 = 69) ∧ mode ≠ 3 ∧ (digB (pk r 1) = true ∨ (pk r 1 = 45 ∧ digB (pk r 2) = true)) then 2 else 0
def idE (ascii : Bool) (i c : Nat) : Nat :=
  if ascii = true ∧ 128 ≤ c then 2 else if c = 13 ∨ c = 10 ∨ c = 12 ∨ c = 65279 then 2
  else if i ≠ 0 then i else if contsB (c : Int) = true then 0 else 1
def idRest (ascii : Bool) (t : List Nat) : List (Nat × Nat) := t.map fun d => (d, idE ascii 0 d)
def idItems (ascii : Bool) (i : Nat) : List Nat → List (Nat × Nat)
  | [] => []
  | c :: t => (c, idE ascii i c) :: idRest ascii t
def identF (mode : Nat) (may ascii : Bool) (r : List Nat) : List Nat := outF (idItems ascii (initE mode r) r) may

theorem initE_le (mode : Nat) (r : List Nat) : initE mode r ≤ 2 := by unfold initE; (repeat' split) <;> omega
theorem idE_le {i : Nat} (h : i ≤ 2) (ascii : Bool) (c : Nat) : idE ascii i c ≤ 2 := by
  unfold idE
  split
  · omega
  split
  · omega
  split
  · exact h
  split <;> omega
theorem idE_nl (ascii : Bool) (i c : Nat) (h : idE ascii i c ≠ 2) : isNl (c : Int) = false := by
  unfold idE at h
  split at h
  · exact absurd rfl h
  split at h
  · exact absurd rfl h
  · rename_i h2
    simp only [isNl, decide_eq_false_iff_not]
    omega
theorem idE_zero {ascii : Bool} {i c : Nat} (h : idE ascii i c = 0) : i = 0 ∧ contsB (c : Int) = true ∧ c ≠ 65279 ∧ (ascii = true → c < 128) := by
  unfold idE at h
  split at h
  · omega
  rename_i h1
  split at h
  · omega
  rename_i h2
  split at h
  · omega
  rename_i h3
  split at h
  · rename_i h4
    refine ⟨by omega, h4, by omega, fun ha => ?_⟩
    rcases Nat.lt_or_ge c 128 with h | h
    · exact h
    · exact absurd ⟨ha, h⟩ h1
  · omega
theorem idE_one {ascii : Bool} {i c : Nat} (h : idE ascii i c = 1) : c ≠ 65279 ∧ (ascii = true → c < 128) := by
  unfold idE at h
  split at h
  · omega
  rename_i h1
  split at h
  · omega
  rename_i h2
  refine ⟨by omega, fun ha => ?_⟩
  rcases Nat.lt_or_ge c 128 with h | h
  · exact h
  · exact absurd ⟨ha, h⟩ h1
theorem idE_good {i : Nat} (hi : i ≤ 2) (ascii : Bool) {c : Nat} (h : Ok c) : Good (c, idE ascii i c) := ⟨h, idE_le hi ascii c, fun hn => idE_nl ascii i c hn⟩
theorem idItems_mem {ascii : Bool} {i : Nat} (r : List Nat) {x : Nat × Nat} (h : x ∈ idItems ascii i r) : x.1 ∈ r ∧ (x.2 = idE ascii i x.1 ∨ x.2 = idE ascii 0 x.1) := by
  cases r with
  | nil => simp [idItems] at h
  | cons c t =>
    simp only [idItems, idRest, List.mem_cons, List.mem_map] at h
    rcases h with rfl | ⟨d, hd, rfl⟩
    · exact ⟨by simp, .inl rfl⟩
    · exact ⟨by simp [hd], .inr rfl⟩
theorem idRest_mem {ascii : Bool} (r : List Nat) {x : Nat × Nat} (h : x ∈ idRest ascii r) : x.1 ∈ r ∧ x.2 = idE ascii 0 x.1 := by
  simp only [idRest, List.mem_map] at h
  obtain ⟨d, hd, rfl⟩ := h
  exact ⟨hd, rfl⟩
theorem idItems_good {ascii : Bool} {i : Nat} (hi : i ≤ 2) {r : List Nat} (h : ∀ c ∈ r, Ok c) : ∀ x ∈ idItems ascii i r, Good x := by
  intro x hx
  obtain ⟨h1, h2⟩ := idItems_mem r hx
  obtain ⟨c, e⟩ := x
  simp only at h1 h2
  rcases h2 with rfl | rfl
  · exact idE_good hi ascii (h c h1)
  · exact idE_good (by omega) ascii (h c h1)
theorem idItems_zero {ascii : Bool} {i : Nat} {r : List Nat} {x : Nat × Nat} (hx : x ∈ idItems ascii i r) (h0 : x.2 = 0) : contsB (x.1 : Int) = true ∧ x.1 ≠ 65279 ∧ (ascii = true → x.1 < 128) := by
  obtain ⟨_, h2⟩ := idItems_mem r hx
  rw [h0] at h2
  rcases h2 with h | h
  · exact (idE_zero h.symm).2
  · exact (idE_zero h.symm).2
theorem idItems_one {ascii : Bool} {i : Nat} {r : List Nat} {x : Nat × Nat} (hx : x ∈ idItems ascii i r) (h0 : x.2 = 1) : x.1 ≠ 65279 ∧ (ascii = true → x.1 < 128) := by
  obtain ⟨_, h2⟩ := idItems_mem r hx
  rw [h0] at h2
  rcases h2 with h | h
  · exact idE_one h.symm
  · exact idE_one h.symm
theorem idRest_fst (ascii : Bool) (r : List Nat) : (idRest ascii r).map (·.1) = r := by simp [idRest, List.map_map, Function.comp_def]
theorem idItems_fst (ascii : Bool) (i : Nat) (r : List Nat) : (idItems ascii i r).map (·.1) = r := by
  cases r with
  | nil => rfl
  | cons c t => simp [idItems, idRest_fst]
theorem idItems_ne {ascii : Bool} {i : Nat} {r : List Nat} (h : idItems ascii i r ≠ []) : r ≠ [] := by rintro rfl; exact h rfl

/-- a name that is printed, and what follows, read as a name -/
theorem ident_name {mode : Nat} {may ascii : Bool} {r X : List Nat} (h : ∀ c ∈ r, Ok c) (hX : (may = true ∧ isSp (pk X 0) = false) ∨ (hexv (pk X 0) < 0 ∧ isSp (pk X 0) = false)) :
    nameF (identF mode may ascii r ++ X) = (r ++ (nameF X).1, (nameF X).2.1, (nameF X).2.2) := by
  have := name_out (idItems ascii (initE mode r) r) may X (idItems_good (initE_le _ _) h) (fun x hx h0 => (idItems_zero hx h0).1) (fun _ => hX)
  rw [idItems_fst] at this
  exact this

theorem out_raw {x : Nat × Nat} {t : List (Nat × Nat)} {may : Bool} {X : List Nat} (h : escK x.1 x.2 = 0) : outF (x :: t) may ++ X = x.1 :: (outF t may ++ X) := by
  obtain ⟨c, e⟩ := x
  simp only [outF, pweF_raw h, List.cons_append, List.nil_append]
theorem out_esc {x : Nat × Nat} {t : List (Nat × Nat)} {may : Bool} {X : List Nat} (g : Good x) (h : escK x.1 x.2 ≠ 0) :
    ∃ (d : Nat) (Y : List Nat), outF (x :: t) may ++ X = 92 :: d :: Y ∧ isNl (d : Int) = false := by
  obtain ⟨c, e⟩ := x
  rcases escK_cases _ g with h1 | h1 | h1 <;> simp only at h1 h
  · exact absurd h1 h
  · obtain ⟨he, hh⟩ := escK_one h1
    exact ⟨c, outF t may ++ X, by simp [outF, pweF_back h1], g.nl (by simp [he])⟩
  · have hs := hexs_spells g.ok.lt
    obtain ⟨ne, all, _, _⟩ := hs
    simp only at ne all
    cases hh : hexs c with
    | nil => exact absurd hh ne
    | cons d ds =>
      rw [hh] at all
      exact ⟨d, ds ++ (tailSp c (t.head?.map (·.1)) may ++ (outF t may ++ X)), by simp [outF, pweF_hex h1, hh], nl_sp (hex_sp (all d (by simp)))⟩

/-- a sign that can stand first in what is left of a name: a backslash, one of a name, or what follows -/
theorem rest_head {ascii may : Bool} {t X : List Nat} (h : ∀ c ∈ t, Ok c) : (t = [] ∧ outF (idRest ascii t) may ++ X = X) ∨ (∃ d Y, outF (idRest ascii t) may ++ X = 92 :: d :: Y ∧ isNl (d : Int) = false) ∨
    ∃ d t', t = d :: t' ∧ contsB (d : Int) = true ∧ outF (idRest ascii t) may ++ X = d :: (outF (idRest ascii t') may ++ X) := by
  cases t with
  | nil => exact .inl ⟨rfl, by simp [idRest, outF]⟩
  | cons d t' =>
    have g := idE_good (i := 0) (by omega) ascii (h d (by simp))
    by_cases hE : escK d (idE ascii 0 d) = 0
    · refine .inr (.inr ⟨d, t', rfl, (idE_zero (escK_zero hE)).2.1, ?_⟩)
      exact out_raw (x := (d, idE ascii 0 d)) hE
    · exact .inr (.inl (out_esc (x := (d, idE ascii 0 d)) g hE))

structure IdHead (R : List Nat) : Prop where
  id : idB (pk R 0) (pk R 1) (pk R 2) = true
  cnt : cntB (pk R 0) (pk R 1) (pk R 2) = false
  hd : pk R 0 = 92 ∨ pk R 0 = 45 ∨ startsB (pk R 0) = true
  cdc : ¬ (pk R 0 = 45 ∧ pk R 1 = 45 ∧ pk R 2 = 62)
theorem IdHead.esc {d : Nat} {Y : List Nat} (h : isNl (d : Int) = false) : IdHead (92 :: d :: Y) where
  id := by show idB 92 (d : Int) _ = true; simp [idB, escB, h]
  cnt := by show cntB 92 (d : Int) _ = false; simp [cntB, digB]
  hd := .inl rfl
  cdc := by intro e; have := e.1; rw [pk_cons] at this; omega
theorem starts_not {c : Int} (h : startsB c = true) : c ≠ 45 ∧ c ≠ 43 ∧ c ≠ 46 ∧ digB c = false ∧ c ≠ -1 ∧ isSp c = false ∧ c ≠ 34 ∧ c ≠ 39 ∧ c ≠ 35 ∧ c ≠ 47 ∧ c ≠ 40 := by
  simp only [startsB, digB, isSp, decide_eq_true_eq, decide_eq_false_iff_not] at *; omega
theorem conts_not {c : Int} (h : contsB c = true) : c ≠ 62 ∧ c ≠ 43 ∧ c ≠ 46 ∧ c ≠ -1 ∧ c ≠ 92 ∧ isSp c = false ∧ c ≠ 40 := by
  simp only [contsB, isSp, decide_eq_true_eq, decide_eq_false_iff_not] at *; omega
theorem IdHead.starts {c : Nat} {Y : List Nat} (h : startsB (c : Int) = true) : IdHead (c :: Y) := by
  obtain ⟨h1, h2, h3, h4, _⟩ := starts_not h
  refine ⟨?_, ?_, .inr (.inr h), fun e => h1 e.1⟩
  · rw [pk_cons]; unfold idB; rw [if_neg h1, h]; rfl
  · rw [pk_cons]; unfold cntB; rw [if_neg (by omega), h4]; simp [h3]

theorem ident_head {mode : Nat} {may ascii : Bool} {r X : List Nat} (hm : mode ≠ 1) (hr : r ≠ []) (h : ∀ c ∈ r, Ok c) (hX : pk X 0 ≠ 62) : IdHead (identF mode may ascii r ++ X) := by
  cases r with
  | nil => exact absurd rfl hr
  | cons c t =>
    have g := idE_good (initE_le mode (c :: t)) ascii (h c (by simp))
    have ht : ∀ x ∈ t, Ok x := fun x hx => h x (by simp [hx])
    by_cases hE : escK c (idE ascii (initE mode (c :: t)) c) = 0
    · have e0 : identF mode may ascii (c :: t) ++ X = c :: (outF (idRest ascii t) may ++ X) := out_raw (x := (c, idE ascii (initE mode (c :: t)) c)) hE
      rw [e0]
      obtain ⟨hi, hc, _, _⟩ := idE_zero (escK_zero hE)
      have hws : wouldStart (c :: t) = true := by
        unfold initE at hi
        rw [if_neg hm] at hi
        by_cases hw : wouldStart (c :: t) = false
        · rw [if_pos hw] at hi; omega
        · simpa using hw
      by_cases hs : startsB (c : Int) = true
      · exact IdHead.starts hs
      · have hs : startsB (c : Int) = false := by simpa using hs
        simp only [wouldStart, pk_cons, hs, Bool.false_or, Bool.and_eq_true, decide_eq_true_eq, Bool.or_eq_true] at hws
        obtain ⟨h45, hd⟩ := hws
        have h45 := of_decide_eq_true h45
        have hc45 : c = 45 := by omega
        subst hc45
        rw [pk_cons1] at hd
        rcases rest_head (ascii := ascii) (may := may) (X := X) ht with ⟨rfl, _⟩ | ⟨d, Y, e1, e2⟩ | ⟨d, t', rfl, hdc, e1⟩
        · simp [pk, startsB] at hd
        · rw [e1]
          refine ⟨?_, ?_, .inr (.inl rfl), ?_⟩
          · show idB 45 92 (d : Int) = true; simp [idB, escB, e2]
          · show cntB 45 92 (d : Int) = false; simp [cntB, digB]
          · intro e; have := e.2.1; rw [pk_cons1, pk_cons] at this; omega
        · rw [pk_cons] at hd
          rw [e1]
          have hds : d ≠ 46 ∧ digB (d : Int) = false := by
            rcases hd with hd | hd
            · have := starts_not hd; exact ⟨by omega, this.2.2.2.1⟩
            · rw [hd]; exact ⟨by omega, by decide⟩
          refine ⟨?_, ?_, .inr (.inl rfl), ?_⟩
          · show idB 45 (d : Int) _ = true
            unfold idB
            rw [if_pos rfl]
            rcases hd with hd | hd
            · simp [hd]
            · simp [hd]
          · show cntB 45 (d : Int) _ = false
            unfold cntB
            rw [if_pos (.inr rfl), hds.2]
            have : (d : Int) ≠ 46 := by omega
            simp [this]
          · rintro ⟨_, _, e⟩
            rw [pk_cons1, pk_cons1] at e
            rcases rest_head (ascii := ascii) (may := may) (X := X) (t := t') (fun x hx => ht x (by simp [hx])) with ⟨_, e2⟩ | ⟨_, _, e2, _⟩ | ⟨x, _, _, hx, e2⟩
            · rw [e2] at e; exact hX e
            · rw [e2, pk_cons] at e; omega
            · rw [e2, pk_cons] at e; exact (conts_not hx).1 e
    · obtain ⟨d, Y, e1, e2⟩ := out_esc (x := (c, idE ascii (initE mode (c :: t)) c)) (t := idRest ascii t) (may := may) (X := X) g hE
      have e0 : identF mode may ascii (c :: t) ++ X = 92 :: d :: Y := e1
      rw [e0]
      exact IdHead.esc e2

theorem IdHead.ne {R : List Nat} (h : IdHead R) : pk R 0 ≠ -1 ∧ isSp (pk R 0) = false ∧ pk R 0 ≠ 34 ∧ pk R 0 ≠ 39 ∧ pk R 0 ≠ 35 ∧ pk R 0 ≠ 47 ∧ pk R 0 ≠ 46 ∧ digB (pk R 0) = false ∧ pk R 0 ≠ 43 := by
  rcases h.hd with e | e | e
  · rw [e]; decide
  · rw [e]; decide
  · have := starts_not e
    exact ⟨this.2.2.2.2.1, this.2.2.2.2.2.1, this.2.2.2.2.2.2.1, this.2.2.2.2.2.2.2.1, this.2.2.2.2.2.2.2.2.1, this.2.2.2.2.2.2.2.2.2.1, this.2.2.1, this.2.2.2.1, this.2.1⟩
theorem next_named {T : Nat} {R : List Nat} (h : IdHead R) : nextF T R = namedF T R := by
  obtain ⟨h1, h2, h3, h4, h5, _⟩ := h.ne
  unfold nextF
  rw [if_neg h1, if_neg (by simp [h2]), if_neg (by omega), if_neg (fun e => h5 e.1), if_neg (by simp [h.cnt]), if_neg h.cdc, if_pos h.id]

/-- one token, whole -/
theorem toks_one {R : List Nat} {k : Tok} (hc : pk R 0 ≠ 47) (hk : k.kind ≠ 0) (h : nextF (encs R).length R = { tok := k, rest := [], opn := false }) :
    toksF R = ([{ k with start := 0, stop := (encs R).length }], 0, false) := by
  have hp : posN (encs R).length R = 0 := by unfold posN; omega
  have hp2 : posN (encs R).length [] = (encs R).length := by unfold posN; simp [encs]
  have hcom : comF R = (R, 0, false) := comF_no (fun e => hc e.1)
  have hne : R ≠ [] := by
    rintro rfl
    have : (nextF (encs []).length []).tok.kind = 0 := by simp [nextF, pk]
    rw [h] at this
    exact hk this
  obtain ⟨n, hn⟩ : ∃ n, R.length = n + 1 := by cases R with | nil => exact absurd rfl hne | cons a b => exact ⟨b.length, rfl⟩
  have hend : toksG (encs R).length (n + 1) [] = ([], 0, false) := by
    simp only [toksG, comF_no (r := []) (by simp [pk])]
    simp [nextF, pk]
  unfold toksF
  rw [hn, toksG, hcom, h]
  simp only [if_neg hk, hp, hp2, hend, Bool.or_false, Nat.zero_add]

theorem ident_tok {mode : Nat} {may ascii : Bool} {r X : List Nat} {T : Nat} (hm : mode ≠ 1) (hr : r ≠ []) (h : ∀ c ∈ r, Ok c) (hX : X = [] ∨ (may = true ∧ ∀ c ∈ X, contsB (c : Int) = true)) :
    nextF T (identF mode may ascii r ++ X) = { tok := { kind := 29, text := encs (r ++ X) }, rest := [], opn := false } := by
  have hall : ∀ X : List Nat, (∀ c ∈ X, contsB (c : Int) = true) → nameF X = (X, [], false) := by
    intro X hX
    induction X with
    | nil => exact nameF_nil
    | cons a t ih =>
      rw [nameF_conts (by rw [pk_cons]; exact hX a (by simp)), List.tail_cons, ih (fun x hx => hX x (by simp [hx])), pk_cons]
      rfl
  have hX0 : pk X 0 = -1 ∨ contsB (pk X 0) = true := by
    cases X with
    | nil => exact .inl rfl
    | cons a t =>
      rcases hX with hX | hX
      · cases hX
      · exact .inr (by rw [pk_cons]; exact hX.2 a (by simp))
  have hXn : nameF X = (X, [], false) := by
    rcases hX with rfl | hX
    · exact nameF_nil
    · exact hall X hX.2
  have hn : nameF (identF mode may ascii r ++ X) = (r ++ X, [], false) := by
    have := ident_name (mode := mode) (may := may) (ascii := ascii) (r := r) (X := X) h (by
      rcases hX with rfl | hX
      · exact .inr (by decide)
      · refine .inl ⟨hX.1, ?_⟩
        rcases hX0 with e | e
        · rw [e]; decide
        · exact conts_sp e)
    rw [hXn] at this
    exact this
  rw [next_named (ident_head hm hr h (by rcases hX0 with e | e; · rw [e]; decide
                                         · exact (conts_not e).1))]
  unfold namedF
  rw [hn]
  simp only []
  rw [if_pos (by decide)]

/-! ## a hash -/
theorem hash_tok {may ascii : Bool} {r : List Nat} {T : Nat} (hr : r ≠ []) (h : ∀ c ∈ r, Ok c) :
    ∃ b, nextF T (35 :: identF 1 may ascii r) = { tok := { kind := 28, id := b, text := encs r }, rest := [], opn := false } := by
  have hn : nameF (identF 1 may ascii r) = (r, [], false) := by
    have := ident_name (mode := 1) (may := may) (ascii := ascii) (r := r) (X := []) h (.inr (by decide))
    simpa [nameF_nil] using this
  have hb : contsB (pk (identF 1 may ascii r) 0) = true ∨ escB (pk (identF 1 may ascii r) 0) (pk (identF 1 may ascii r) 1) = true := by
    by_cases h1 : contsB (pk (identF 1 may ascii r) 0) = true
    · exact .inl h1
    · by_cases h2 : escB (pk (identF 1 may ascii r) 0) (pk (identF 1 may ascii r) 1) = true
      · exact .inr h2
      · exfalso
        rw [nameF_done (by simpa using h1) (by simpa using h2)] at hn
        exact hr (congrArg Prod.fst hn).symm
  refine ⟨idB (pk (35 :: identF 1 may ascii r) 1) (pk (35 :: identF 1 may ascii r) 2) (pk (35 :: identF 1 may ascii r) 3), ?_⟩
  unfold nextF
  rw [if_neg (by rw [pk_cons]; decide), if_neg (by rw [pk_cons]; decide), if_neg (by rw [pk_cons]; decide), if_pos ⟨rfl, by simpa only [pk_cons1] using hb⟩]
  simp only [List.tail_cons, hn]

/-! ## units -/
theorem dg_all {ds Q : List Nat} (hd : ∀ d ∈ ds, digB (d : Int) = true) (hQ : digB (pk Q 0) = false) : dgF (ds ++ Q) = Q := by
  induction ds with
  | nil => exact dgF_no hQ
  | cons d t ih => rw [List.cons_append, dgF_yes (by rw [pk_cons]; exact hd d (by simp)), List.tail_cons]; exact ih (fun x hx => hd x (by simp [hx]))
theorem enc_dig {c : Nat} (h : c < 128) : (enc c).length = 1 := by
  simp [enc, Lib.encodeRune, Lib.encodeRuneZ_one (r := (c : Int)) (by omega) (by omega)]
theorem encs_len_low {l : List Nat} (h : ∀ c ∈ l, c < 128) : (encs l).length = l.length := by
  induction l with
  | nil => rfl
  | cons c t ih => rw [encs_cons, List.length_append, enc_dig (h c (by simp)), ih (fun x hx => h x (by simp [hx]))]; simp; omega
theorem posN_app {A Q : List Nat} (h : ∀ c ∈ A, c < 128) : (posN (encs (A ++ Q)).length Q : Int) - posN (encs (A ++ Q)).length (A ++ Q) = A.length := by
  have := encs_len_low h
  unfold posN
  rw [encs_append, List.length_append, this]
  omega
theorem dig_low {ds : List Nat} (hd : ∀ d ∈ ds, digB (d : Int) = true) : ∀ c ∈ ds, c < 128 := by
  intro c hc
  have := hd c hc
  simp only [digB, decide_eq_true_eq] at this
  omega

theorem unit_expo {may ascii : Bool} {r : List Nat} (h : ∀ c ∈ r, Ok c) : expo (identF 2 may ascii r) = false := by
  cases r with
  | nil => simp [identF, idItems, outF, expo, pk]
  | cons c t =>
    have g := idE_good (initE_le 2 (c :: t)) ascii (h c (by simp))
    have ht : ∀ x ∈ t, Ok x := fun x hx => h x (by simp [hx])
    by_cases hE : escK c (idE ascii (initE 2 (c :: t)) c) = 0
    · have e0 : identF 2 may ascii (c :: t) = c :: outF (idRest ascii t) may := by
        have := out_raw (x := (c, idE ascii (initE 2 (c :: t)) c)) (t := idRest ascii t) (may := may) (X := []) hE
        rw [List.append_nil, List.append_nil] at this
        exact this
      rw [e0]
      obtain ⟨hi, _⟩ := idE_zero (escK_zero hE)
      unfold initE at hi
      rw [if_neg (by decide)] at hi
      split at hi
      · omega
      rw [if_neg (by decide)] at hi
      split at hi
      · omega
      rename_i hn
      unfold expo
      by_cases hc : (c : Int) = 101 ∨ (c : Int) = 69
      · have h1 : ¬ (digB (pk t 0) = true ∨ (pk t 0 = 45 ∧ digB (pk t 1) = true)) := fun e => hn ⟨by rw [pk_cons]; exact hc, by decide, by rw [pk_cons1, pk_cons1]; exact e⟩
        have key : digB (pk (outF (idRest ascii t) may) 0) = false ∧ ((pk (outF (idRest ascii t) may) 0 = 43 ∨ pk (outF (idRest ascii t) may) 0 = 45) → digB (pk (outF (idRest ascii t) may) 1) = false) := by
          have hh := rest_head (ascii := ascii) (may := may) (X := []) ht
          simp only [List.append_nil] at hh
          rcases hh with ⟨_, e⟩ | ⟨d, Y, e, _⟩ | ⟨d, t', rfl, hd, e⟩
          · rw [e]; simp [pk, digB]
          · rw [e]; simp only [pk_cons]; exact ⟨by decide, fun e => by omega⟩
          · rw [e]; simp only [pk_cons, pk_cons1] at h1 ⊢
            refine ⟨by simpa using fun e => h1 (.inl e), fun hs => ?_⟩
            have h45 : (d : Int) = 45 := by
              rcases hs with hs | hs
              · exact absurd hs (conts_not hd).2.1
              · exact hs
            have h2 : digB (pk t' 0) = false := by simpa using fun e => h1 (.inr ⟨h45, e⟩)
            have hh := rest_head (ascii := ascii) (may := may) (X := []) (t := t') (fun x hx => ht x (by simp [hx]))
            simp only [List.append_nil] at hh
            rcases hh with ⟨_, e⟩ | ⟨d, Y, e, _⟩ | ⟨d, t', rfl, hd, e⟩
            · rw [e]; simp [pk, digB]
            · rw [e, pk_cons]; decide
            · rw [e, pk_cons]; rw [pk_cons] at h2; exact h2
        simp only [pk_cons1]
        rw [key.1]
        by_cases hs : pk (outF (idRest ascii t) may) 0 = 43 ∨ pk (outF (idRest ascii t) may) 0 = 45
        · rw [key.2 hs]; simp
        · simp [hs]
      · rw [pk_cons]; simp [hc]
    · obtain ⟨d, Y, e1, e2⟩ := out_esc (x := (c, idE ascii (initE 2 (c :: t)) c)) (t := idRest ascii t) (may := may) (X := []) g hE
      have e0 : identF 2 may ascii (c :: t) = 92 :: d :: Y := by rw [← e1]; simp [identF, idItems]
      rw [e0]
      simp [expo, pk_cons]

theorem next_numeric {T : Nat} {R : List Nat} (h : digB (pk R 0) = true) : nextF T R = numericF T R := by
  have : pk R 0 ≠ -1 ∧ isSp (pk R 0) = false ∧ pk R 0 ≠ 34 ∧ pk R 0 ≠ 39 ∧ pk R 0 ≠ 35 ∧ pk R 0 ≠ 43 ∧ pk R 0 ≠ 45 := by
    simp only [digB, isSp, decide_eq_true_eq, decide_eq_false_iff_not] at *; omega
  obtain ⟨h1, h2, h3, h4, h5, h6, h7⟩ := this
  unfold nextF
  rw [if_neg h1, if_neg (by simp [h2]), if_neg (by omega), if_neg (fun e => h5 e.1), if_pos (by unfold cntB; rw [if_neg (by omega), h]; rfl)]
theorem numeric_unit {T : Nat} {R Q r : List Nat} (h4 : num4 R = Q) (hO : numO R = false) (hQ : IdHead Q) (hn : nameF Q = (r, [], false)) :
    numericF T R = { tok := { kind := 26, unit := (posN T Q : Int) - posN T R }, rest := [], opn := false } := by
  unfold numericF
  rw [h4, if_pos hQ.id, hn, hO]
  rfl
theorem dig_not {c : Int} (h : digB c = true) : c ≠ 43 ∧ c ≠ 45 ∧ c ≠ 46 ∧ c ≠ 47 := by
  simp only [digB, decide_eq_true_eq] at h; omega

theorem unit_tok {may ascii : Bool} {ds r : List Nat} (hd0 : ds ≠ []) (hd : ∀ d ∈ ds, digB (d : Int) = true) (hr : r ≠ []) (h : ∀ c ∈ r, Ok c) :
    nextF (encs (ds ++ identF 2 may ascii r)).length (ds ++ identF 2 may ascii r) = { tok := { kind := 26, unit := ds.length }, rest := [], opn := false } := by
  have hQ : IdHead (identF 2 may ascii r) := by
    have := ident_head (mode := 2) (may := may) (ascii := ascii) (r := r) (X := []) (by decide) hr h (by decide)
    simpa using this
  have hn : nameF (identF 2 may ascii r) = (r, [], false) := by
    have := ident_name (mode := 2) (may := may) (ascii := ascii) (r := r) (X := []) h (.inr (by decide))
    simpa [nameF_nil] using this
  obtain ⟨_, _, _, _, _, _, h46, hdig, _⟩ := hQ.ne
  have hp : digB (pk (ds ++ identF 2 may ascii r) 0) = true := by
    cases ds with
    | nil => exact absurd rfl hd0
    | cons d t => rw [List.cons_append, pk_cons]; exact hd d (by simp)
  have n1 : num1 (ds ++ identF 2 may ascii r) = ds ++ identF 2 may ascii r := by
    have := dig_not hp
    unfold num1; rw [if_neg (by omega)]
  have n2 : num2 (ds ++ identF 2 may ascii r) = identF 2 may ascii r := by unfold num2; rw [n1]; exact dg_all hd hdig
  have n3 : num3 (ds ++ identF 2 may ascii r) = identF 2 may ascii r := by unfold num3; rw [n2, if_neg (fun e => h46 e.1)]
  have n4 : num4 (ds ++ identF 2 may ascii r) = identF 2 may ascii r := by unfold num4; rw [n3, if_neg (by rw [unit_expo h]; decide)]
  have nO : numO (ds ++ identF 2 may ascii r) = false := by unfold numO; rw [n2]; simp [h46]
  rw [next_numeric hp, numeric_unit n4 nO hQ hn, posN_app (dig_low hd)]

/-- the digits of a power, a sign ahead of them or none -/
def Power (pw : List Nat) : Prop := ∃ sg ps, pw = sg ++ ps ∧ (sg = [] ∨ sg = [43] ∨ sg = [45]) ∧ ps ≠ [] ∧ ∀ d ∈ ps, digB (d : Int) = true
theorem Power.low {pw : List Nat} (h : Power pw) : ∀ c ∈ pw, c < 128 := by
  obtain ⟨sg, ps, rfl, hs, _, hd⟩ := h
  intro c hc
  rcases List.mem_append.mp hc with hc | hc
  · rcases hs with rfl | rfl | rfl <;> simp at hc <;> omega
  · exact dig_low hd c hc
theorem power_tok {may ascii : Bool} {ds pw r : List Nat} (hd0 : ds ≠ []) (hd : ∀ d ∈ ds, digB (d : Int) = true) (hpw : Power pw) (hr : r ≠ []) (h : ∀ c ∈ r, Ok c) :
    nextF (encs ((ds ++ 101 :: pw) ++ identF 3 may ascii r)).length ((ds ++ 101 :: pw) ++ identF 3 may ascii r) = { tok := { kind := 26, unit := ((ds ++ 101 :: pw).length : Nat) }, rest := [], opn := false } := by
  have hQ : IdHead (identF 3 may ascii r) := by
    have := ident_head (mode := 3) (may := may) (ascii := ascii) (r := r) (X := []) (by decide) hr h (by decide)
    simpa using this
  have hn : nameF (identF 3 may ascii r) = (r, [], false) := by
    have := ident_name (mode := 3) (may := may) (ascii := ascii) (r := r) (X := []) h (.inr (by decide))
    simpa [nameF_nil] using this
  obtain ⟨_, _, _, _, _, _, h46, hdig, _⟩ := hQ.ne
  have hlow : ∀ c ∈ ds ++ 101 :: pw, c < 128 := by
    intro c hc
    rcases List.mem_append.mp hc with hc | hc
    · exact dig_low hd c hc
    · rcases List.mem_cons.mp hc with rfl | hc
      · omega
      · exact hpw.low c hc
  obtain ⟨sg, ps, rfl, hs, hp0, hps⟩ := hpw
  have eR : (ds ++ 101 :: (sg ++ ps)) ++ identF 3 may ascii r = ds ++ (101 :: (sg ++ (ps ++ identF 3 may ascii r))) := by simp
  have hp : digB (pk ((ds ++ 101 :: (sg ++ ps)) ++ identF 3 may ascii r) 0) = true := by
    cases ds with
    | nil => exact absurd rfl hd0
    | cons d t => rw [List.cons_append, List.cons_append, pk_cons]; exact hd d (by simp)
  have n1 : num1 ((ds ++ 101 :: (sg ++ ps)) ++ identF 3 may ascii r) = (ds ++ 101 :: (sg ++ ps)) ++ identF 3 may ascii r := by
    have := dig_not hp
    unfold num1; rw [if_neg (by omega)]
  have n2 : num2 ((ds ++ 101 :: (sg ++ ps)) ++ identF 3 may ascii r) = 101 :: (sg ++ (ps ++ identF 3 may ascii r)) := by
    unfold num2; rw [n1, eR]; exact dg_all hd (by rw [pk_cons]; decide)
  have n3 : num3 ((ds ++ 101 :: (sg ++ ps)) ++ identF 3 may ascii r) = 101 :: (sg ++ (ps ++ identF 3 may ascii r)) := by
    unfold num3; rw [n2, if_neg (by rw [pk_cons]; intro e; have := e.1; omega)]
  obtain ⟨p, ps', rfl⟩ : ∃ p ps', ps = p :: ps' := by cases ps with | nil => exact absurd rfl hp0 | cons a b => exact ⟨a, b, rfl⟩
  have hpd := hps p (by simp)
  have hps' : ∀ d ∈ ps', digB (d : Int) = true := fun d hd => hps d (by simp [hd])
  have n4 : num4 ((ds ++ 101 :: (sg ++ p :: ps')) ++ identF 3 may ascii r) = identF 3 may ascii r := by
    unfold num4
    rw [n3]
    rcases hs with rfl | rfl | rfl
    · rw [if_pos (by simp [expo, pk_cons, pk_cons1, hpd])]
      exact dg_all hps' hdig
    · rw [if_pos (by simp [expo, pk_cons, pk_cons1, hpd])]
      exact dg_all (ds := p :: ps') hps hdig
    · rw [if_pos (by simp [expo, pk_cons, pk_cons1, hpd])]
      exact dg_all (ds := p :: ps') hps hdig
  have nO : numO ((ds ++ 101 :: (sg ++ p :: ps')) ++ identF 3 may ascii r) = false := by unfold numO; rw [n2, pk_cons]; simp
  rw [next_numeric hp, numeric_unit n4 nO hQ hn, posN_app hlow]
end Go.Proofs.YtmomkkakjkkakaaFmt.Pl
