/-
  PLAIN LEAN, no program in sight: strings and addresses as the printer writes them are read by the standard as what was meant; which quotes are the shorter ones; all that is printed is plain text.
-/
import Derived.Test.YtmomkkakjkkakaaFmtLaw
set_option linter.unusedVariables false
set_option linter.unusedSimpArgs false
namespace Go.Proofs.YtmomkkakjkkakaaFmt.Pl
open Go

/-! ## strings -/
/-- does the text behind a stroke begin with style, in letters of any size -/
def styleB (t : List UInt8) : Bool := decide (5 ≤ t.length) && (lowU (t.getD 0 0) 115 && (lowU (t.getD 1 0) 116 && (lowU (t.getD 2 0) 121 && (lowU (t.getD 3 0) 108 && lowU (t.getD 4 0) 101))))
def qE (ascii : Bool) (q : Nat) (p : Option Nat) (c : Nat) (t : List Nat) : Nat :=
  if c = 13 ∨ c = 10 ∨ c = 12 then 2
  else if c = 92 ∨ c = q then 1
  else if c = 40 ∨ c = 41 ∨ c = 32 ∨ c = 9 ∨ c = 34 ∨ c = 39 then (if q = 0 then 1 else 0)
  else if c = 47 then (if p = some 60 ∧ styleB (encs t) = true then 1 else 0)
  else if (ascii = true ∧ 128 ≤ c) ∨ c = 65279 then 2 else 0
def qItems (ascii : Bool) (q : Nat) : Option Nat → List Nat → List (Nat × Nat)
  | _, [] => []
  | p, c :: t => (c, qE ascii q p c t) :: qItems ascii q (some c) t
def innerF (ascii : Bool) (q : Nat) (r : List Nat) : List Nat := outF (qItems ascii q none r) false
/-- a text in quotes (0: none) -/
def quoteF (ascii : Bool) (q : Nat) (r : List Nat) : List Nat := if q = 0 then innerF ascii q r else q :: (innerF ascii q r ++ [q])

theorem qE_le (ascii : Bool) (q : Nat) (p : Option Nat) (c : Nat) (t : List Nat) : qE ascii q p c t ≤ 2 := by unfold qE; (repeat' split) <;> omega
theorem qE_nl (ascii : Bool) (q : Nat) (p : Option Nat) (c : Nat) (t : List Nat) (h : qE ascii q p c t ≠ 2) : isNl (c : Int) = false := by
  unfold qE at h
  split at h
  · exact absurd rfl h
  · rename_i h1; simp only [isNl, decide_eq_false_iff_not]; omega
theorem qE_zero {ascii : Bool} {q : Nat} {p : Option Nat} {c : Nat} {t : List Nat} (h : qE ascii q p c t = 0) :
    c ≠ 92 ∧ c ≠ q ∧ isNl (c : Int) = false ∧ c ≠ 65279 ∧ (ascii = true → c < 128) ∧ (q = 0 → c ≠ 40 ∧ c ≠ 41 ∧ c ≠ 34 ∧ c ≠ 39 ∧ c ≠ 32 ∧ c ≠ 9) := by
  have hn := qE_nl ascii q p c t (by omega)
  unfold qE at h
  split at h
  · omega
  split at h
  · omega
  rename_i h1 h2
  refine ⟨by omega, by omega, hn, ?_⟩
  split at h
  · rename_i h3
    refine ⟨by omega, fun _ => by omega, fun hq => ?_⟩
    rw [if_pos hq] at h; omega
  rename_i h3
  split at h
  · rename_i h4
    exact ⟨by omega, fun _ => by omega, fun _ => by omega⟩
  rename_i h4
  split at h
  · omega
  rename_i h5
  refine ⟨by omega, fun ha => ?_, fun _ => by omega⟩
  rcases Nat.lt_or_ge c 128 with hl | hl
  · exact hl
  · exact absurd (.inl ⟨ha, hl⟩) h5
theorem qE_one {ascii : Bool} {q : Nat} {p : Option Nat} {c : Nat} {t : List Nat} (h : qE ascii q p c t = 1) : c = 92 ∨ c = q ∨ c = 40 ∨ c = 41 ∨ c = 32 ∨ c = 9 ∨ c = 34 ∨ c = 39 ∨ c = 47 := by
  unfold qE at h
  split at h
  · omega
  split at h
  · omega
  split at h
  · omega
  split at h
  · omega
  split at h <;> omega
theorem qItems_fst (ascii : Bool) (q : Nat) : ∀ (p : Option Nat) (r : List Nat), (qItems ascii q p r).map (·.1) = r
  | _, [] => rfl
  | p, c :: t => by simp only [qItems, List.map_cons]; rw [qItems_fst ascii q (some c) t]
theorem qItems_mem {ascii : Bool} {q : Nat} : ∀ {p : Option Nat} {r : List Nat} {x : Nat × Nat}, x ∈ qItems ascii q p r → x.1 ∈ r ∧ ∃ p' t, x.2 = qE ascii q p' x.1 t
  | p, [], x, h => by simp [qItems] at h
  | p, c :: t, x, h => by
    simp only [qItems, List.mem_cons] at h
    rcases h with rfl | h
    · exact ⟨by simp, p, t, rfl⟩
    · obtain ⟨h1, h2⟩ := qItems_mem h
      exact ⟨by simp [h1], h2⟩
theorem qItems_good {ascii : Bool} {q : Nat} {p : Option Nat} {r : List Nat} (h : ∀ c ∈ r, Ok c) : ∀ x ∈ qItems ascii q p r, Good x := by
  intro x hx
  obtain ⟨h1, p', t, h2⟩ := qItems_mem hx
  exact ⟨h _ h1, by rw [h2]; exact qE_le _ _ _ _ _, fun hn => qE_nl ascii q p' _ t (by rw [← h2]; exact hn)⟩
/-- all is below U+100000, where ASCII is asked for -/
def LowR (ascii : Bool) (r : List Nat) : Prop := ascii = true → ∀ c ∈ r, c < 1048576
theorem qItems_low {ascii : Bool} {q : Nat} (hq : q < 128) {p : Option Nat} {r : List Nat} (hl : LowR ascii r) : ∀ x ∈ qItems ascii q p r, x.2 ≠ 0 → x.1 < 1048576 := by
  intro x hx h0
  obtain ⟨h1, p', t, h2⟩ := qItems_mem hx
  rw [h2] at h0
  by_cases ha : ascii = true
  · exact hl ha _ h1
  · unfold qE at h0
    split at h0
    · omega
    split at h0
    · omega
    split at h0
    · omega
    split at h0
    · omega
    split at h0
    · rename_i h; rcases h with h | h
      · exact absurd h.1 ha
      · omega
    · exact absurd rfl h0

theorem inner_quot {ascii : Bool} {q : Nat} {r Y : List Nat} (hq : q = 34 ∨ q = 39) (h : ∀ c ∈ r, Ok c) (hl : LowR ascii r) : quotF q (innerF ascii q r ++ q :: Y) = (36, r, Y, false) := by
  have := quot_out (qItems ascii q none r) q Y hq (qItems_good h) (fun x hx h0 => by
    obtain ⟨_, p', t, h2⟩ := qItems_mem hx
    rw [h0] at h2
    have := qE_zero h2.symm
    exact ⟨this.2.1, this.1⟩) (fun x hx h0 _ => qItems_low (by omega) hl x hx h0)
  rw [qItems_fst] at this
  exact this
theorem quote_tok {ascii : Bool} {q : Nat} {r Y : List Nat} {T : Nat} (hq : q = 34 ∨ q = 39) (h : ∀ c ∈ r, Ok c) (hl : LowR ascii r) :
    nextF T (quoteF ascii q r ++ Y) = { tok := { kind := 36, text := encs r }, rest := Y, opn := false } := by
  have e : quoteF ascii q r ++ Y = q :: (innerF ascii q r ++ q :: Y) := by unfold quoteF; rw [if_neg (by omega)]; simp
  rw [e]
  unfold nextF
  rw [if_neg (by rw [pk_cons]; omega), if_neg (by rw [pk_cons]; rcases hq with rfl | rfl <;> decide), if_pos (by rw [pk_cons]; omega)]
  rw [pk_cons, Int.toNat_natCast, List.tail_cons, inner_quot hq h hl]
theorem inner_dec {ascii : Bool} {q : Nat} {r : List Nat} (hq : q < 128) (h : ∀ c ∈ r, Ok c) (hl : LowR ascii r) : decF (innerF ascii q r) = r := by
  have := dec_out (qItems ascii q none r) false (qItems_good h) (fun x hx h0 => by
    obtain ⟨_, p', t, h2⟩ := qItems_mem hx
    rw [h0] at h2
    exact (qE_zero h2.symm).1) (fun x hx => .inl fun h2 => qItems_low hq hl x hx (by intro h0; rw [h0] at h2; simp [escK] at h2))
  rw [qItems_fst] at this
  exact this
theorem ident_dec {mode : Nat} {may ascii : Bool} {r : List Nat} (h : ∀ c ∈ r, Ok c) : decF (identF mode may ascii r) = r := by
  have := dec_out (idItems ascii (initE mode r) r) may (idItems_good (initE_le _ _) h) (fun x hx h0 => by
    have := conts_not (idItems_zero hx h0).1
    omega) (fun x hx => .inr fun y hy h0 => conts_sp (idItems_zero hy h0).1)
  rw [idItems_fst] at this
  exact this

/-! ## what is printed is plain, and in ASCII, where this is asked -/
theorem out_all {p : Nat → Prop} (h92 : p 92) (h32 : p 32) (hh : ∀ d : Nat, 0 ≤ hexv (d : Int) → p d) : ∀ (es : List (Nat × Nat)) (may : Bool), (∀ x ∈ es, Good x) → (∀ x ∈ es, x.2 ≠ 2 → p x.1) → ∀ c ∈ outF es may, p c
  | [], may, _, _, c, hc => by simp [outF] at hc
  | (a, e) :: t, may, hg, hp, c, hc => by
    have g := hg (a, e) (by simp)
    simp only [outF, List.mem_append] at hc
    rcases hc with hc | hc
    · rcases escK_cases _ g with h1 | h1 | h1 <;> simp only at h1
      · rw [pweF_raw h1, List.mem_singleton] at hc
        subst hc
        exact hp (c, e) (by simp) (by have := escK_zero h1; simp only; omega)
      · rw [pweF_back h1] at hc
        simp only [List.mem_cons, List.mem_nil_iff, or_false] at hc
        rcases hc with rfl | rfl
        · exact h92
        · exact hp (c, e) (by simp) (by have := (escK_one h1).1; simp only; omega)
      · rw [pweF_hex h1] at hc
        simp only [List.mem_cons, List.mem_append] at hc
        rcases hc with rfl | hc | hc
        · exact h92
        · exact hh c ((hexs_spells g.ok.lt).all c hc)
        · unfold tailSp at hc
          have : c = 32 := by
            split at hc
            · split at hc
              · split at hc <;> simp at hc; exact hc
              · split at hc <;> simp at hc; exact hc
            · simp at hc
          rw [this]; exact h32
    · exact out_all h92 h32 hh t may (fun x hx => hg x (by simp [hx])) (fun x hx => hp x (by simp [hx])) c hc
theorem hex_ok {d : Nat} (h : 0 ≤ hexv (d : Int)) : Ok d ∧ d < 128 := by
  unfold hexv at h
  unfold Ok Sc
  split at h
  · omega
  split at h
  · omega
  split at h <;> omega
theorem out_ok (es : List (Nat × Nat)) (may : Bool) (hg : ∀ x ∈ es, Good x) : ∀ c ∈ outF es may, Ok c :=
  out_all (p := Ok) ⟨.inl (by omega), by omega⟩ ⟨.inl (by omega), by omega⟩ (fun d h => (hex_ok h).1) es may hg (fun x hx _ => (hg x hx).ok)
theorem out_low (es : List (Nat × Nat)) (may : Bool) (hg : ∀ x ∈ es, Good x) (hp : ∀ x ∈ es, x.2 ≠ 2 → x.1 < 128) : ∀ c ∈ outF es may, c < 128 :=
  out_all (p := fun c => c < 128) (by decide) (by decide) (fun d h => (hex_ok h).2) es may hg hp
theorem ident_ok {mode : Nat} {may ascii : Bool} {r : List Nat} (h : ∀ c ∈ r, Ok c) : ∀ c ∈ identF mode may ascii r, Ok c := out_ok _ _ (idItems_good (initE_le _ _) h)
theorem ident_low {mode : Nat} {may : Bool} {r : List Nat} (h : ∀ c ∈ r, Ok c) : ∀ c ∈ identF mode may true r, c < 128 :=
  out_low _ _ (idItems_good (initE_le _ _) h) (fun x hx h2 => by
    have hg := idItems_good (ascii := true) (initE_le mode r) h x hx
    have hle := hg.le
    rcases (by omega : x.2 = 0 ∨ x.2 = 1) with h0 | h1
    · exact (idItems_zero hx h0).2.2 rfl
    · exact (idItems_one hx h1).2 rfl)
theorem ident_first {mode : Nat} {may ascii : Bool} {r : List Nat} (h : ∀ c ∈ r, Ok c) : (identF mode may ascii r).head? ≠ some 65279 := by
  cases r with
  | nil => simp [identF, idItems, outF]
  | cons c t =>
    have g := idE_good (initE_le mode (c :: t)) ascii (h c (by simp))
    have hh := out_head (x := (c, idE ascii (initE mode (c :: t)) c)) (t := idRest ascii t) (may := may) (X := []) g
    rw [List.append_nil] at hh
    intro e
    have e0 : pk (identF mode may ascii (c :: t)) 0 = 65279 := by
      cases hR : identF mode may ascii (c :: t) with
      | nil => rw [hR] at e; cases e
      | cons a b => rw [hR] at e; simp only [List.head?_cons, Option.some.injEq] at e; rw [pk_cons, e]; rfl
    have e1 : pk (identF mode may ascii (c :: t)) 0 = if escK c (idE ascii (initE mode (c :: t)) c) = 0 then (c : Int) else 92 := hh
    rw [e0] at e1
    split at e1
    · rename_i h0
      have := (idE_zero (escK_zero h0)).2.2.1
      omega
    · omega
theorem inner_ok {ascii : Bool} {q : Nat} {r : List Nat} (h : ∀ c ∈ r, Ok c) : ∀ c ∈ innerF ascii q r, Ok c := out_ok _ _ (qItems_good h)
theorem inner_low {q : Nat} (hq : q < 128) {r : List Nat} (h : ∀ c ∈ r, Ok c) : ∀ c ∈ innerF true q r, c < 128 :=
  out_low _ _ (qItems_good h) (fun x hx h2 => by
    obtain ⟨_, p', t, e⟩ := qItems_mem hx
    have hle := qE_le true q p' x.1 t
    rw [← e] at hle
    rcases (by omega : x.2 = 0 ∨ x.2 = 1) with h0 | h1
    · rw [e] at h0; exact (qE_zero h0).2.2.2.2.1 rfl
    · rw [e] at h1; have := qE_one h1; omega)
theorem quote_ok {ascii : Bool} {q : Nat} {r : List Nat} (hq : q = 34 ∨ q = 39) (h : ∀ c ∈ r, Ok c) : ∀ c ∈ quoteF ascii q r, Ok c := by
  have hqo : Ok q := ⟨.inl (by omega), by omega⟩
  intro c hc
  unfold quoteF at hc
  rw [if_neg (by omega)] at hc
  simp only [List.mem_cons, List.mem_append, List.mem_nil_iff, or_false] at hc
  rcases hc with rfl | hc | rfl
  · exact hqo
  · exact inner_ok h c hc
  · exact hqo
theorem quote_low {q : Nat} {r : List Nat} (hq : q = 34 ∨ q = 39) (h : ∀ c ∈ r, Ok c) : ∀ c ∈ quoteF true q r, c < 128 := by
  intro c hc
  unfold quoteF at hc
  rw [if_neg (by omega)] at hc
  simp only [List.mem_cons, List.mem_append, List.mem_nil_iff, or_false] at hc
  rcases hc with rfl | hc | rfl
  · omega
  · exact inner_low (by omega) h c hc
  · omega

/-! ## the shorter quotes -/
/-- how many of a sign -/
def cntN (q : Nat) (r : List Nat) : Nat := r.countP fun c => c == q
theorem pwe_len_eq {c e : Nat} {nx nx' : Option Nat} {may : Bool} (h : nx.map needSp = nx'.map needSp) : (pweF c e nx may).length = (pweF c e nx' may).length := by
  unfold pweF tailSp
  cases nx <;> cases nx' <;> simp_all
theorem enc_len_one {c : Nat} (h : c < 128) : (encs [c]).length = 1 := by rw [encs_cons, List.length_append, enc_dig h]; rfl
theorem quotes_len {ascii : Bool} : ∀ (p : Option Nat) (r : List Nat), (encs (outF (qItems ascii 34 p r) false)).length + cntN 39 r = (encs (outF (qItems ascii 39 p r) false)).length + cntN 34 r
  | p, [] => rfl
  | p, c :: t => by
    have ih := quotes_len (ascii := ascii) (some c) t
    have hnx : (qItems ascii 34 (some c) t).head?.map (·.1) = (qItems ascii 39 (some c) t).head?.map (·.1) := by cases t <;> rfl
    simp only [qItems, outF, encs_append, List.length_append, hnx]
    by_cases h1 : c = 34
    · subst h1
      have e1 : qE ascii 34 p 34 t = 1 := by simp [qE]
      have e2 : qE ascii 39 p 34 t = 0 := by simp [qE]
      rw [e1, e2, pweF_back (c := 34) (e := 1) (by decide), pweF_raw (c := 34) (e := 0) (by decide)]
      have a1 : (encs [92, 34]).length = 2 := by rw [encs_cons, List.length_append, enc_len_one (by omega), enc_dig (by omega)]
      have a2 : (encs [34]).length = 1 := enc_len_one (by omega)
      have b1 : cntN 39 (34 :: t) = cntN 39 t := by simp [cntN]
      have b2 : cntN 34 (34 :: t) = cntN 34 t + 1 := by simp [cntN]
      rw [a1, a2, b1, b2]; omega
    · by_cases h2 : c = 39
      · subst h2
        have e1 : qE ascii 34 p 39 t = 0 := by simp [qE]
        have e2 : qE ascii 39 p 39 t = 1 := by simp [qE]
        rw [e1, e2, pweF_back (c := 39) (e := 1) (by decide), pweF_raw (c := 39) (e := 0) (by decide)]
        have a1 : (encs [92, 39]).length = 2 := by rw [encs_cons, List.length_append, enc_len_one (by omega), enc_dig (by omega)]
        have a2 : (encs [39]).length = 1 := enc_len_one (by omega)
        have b1 : cntN 39 (39 :: t) = cntN 39 t + 1 := by simp [cntN]
        have b2 : cntN 34 (39 :: t) = cntN 34 t := by simp [cntN]
        rw [a1, a2, b1, b2]; omega
      · have e1 : qE ascii 34 p c t = qE ascii 39 p c t := by unfold qE; simp [h1, h2]
        have b1 : cntN 39 (c :: t) = cntN 39 t := by simp [cntN, h2]
        have b2 : cntN 34 (c :: t) = cntN 34 t := by simp [cntN, h1]
        rw [e1, b1, b2]; omega
theorem quote_len {ascii : Bool} {q : Nat} {r : List Nat} (hq : q = 34 ∨ q = 39) : (encs (quoteF ascii q r)).length = 2 + (encs (innerF ascii q r)).length := by
  unfold quoteF
  rw [if_neg (by omega), encs_cons, encs_append, List.length_append, List.length_append, enc_dig (by omega), enc_len_one (by omega)]
  omega
/-- what chooses the quotes -/
def costN (r : List Nat) : Nat := r.countP fun c => decide (c = 92 ∨ c = 10 ∨ c = 13 ∨ c = 12)
def urlN (r : List Nat) : Nat := r.countP fun c => decide (c = 39 ∨ c = 34 ∨ c = 40 ∨ c = 41 ∨ c = 32 ∨ c = 9 ∨ c = 92 ∨ c = 10 ∨ c = 13 ∨ c = 12)
def bestF (url : Bool) (r : List Nat) : Nat :=
  if url = true ∧ urlN r < 2 + cntN 39 r + costN r ∧ urlN r < 2 + cntN 34 r + costN r then 0
  else if cntN 39 r < cntN 34 r then 39 else 34
theorem best_short {ascii : Bool} {r : List Nat} : (encs (quoteF ascii (bestF false r) r)).length ≤ (encs (quoteF ascii (73 - bestF false r) r)).length := by
  have h := quotes_len (ascii := ascii) none r
  unfold bestF
  simp only [Bool.false_eq_true, false_and, if_false]
  split
  · rw [quote_len (by omega), quote_len (by omega)]
    unfold innerF
    simp only [Nat.reduceSub]
    omega
  · rw [quote_len (by omega), quote_len (by omega)]
    unfold innerF
    simp only [Nat.reduceSub]
    omega

/-! ## addresses -/
def addrF (ascii : Bool) (q : Nat) (r : List Nat) : List Nat := 117 :: 114 :: 108 :: 40 :: (quoteF ascii q r ++ [41])
theorem url_name (Y : List Nat) : nameF (117 :: 114 :: 108 :: 40 :: Y) = ([117, 114, 108], 40 :: Y, false) := by
  rw [nameF_conts (by rw [pk_cons]; decide), List.tail_cons, nameF_conts (by rw [pk_cons]; decide), List.tail_cons, nameF_conts (by rw [pk_cons]; decide), List.tail_cons, nameF_done (by rw [pk_cons]; decide) (by rw [pk_cons]; simp [escB])]
  rfl
theorem url_head (Y : List Nat) : IdHead (117 :: 114 :: 108 :: 40 :: Y) := IdHead.starts (by decide)
theorem enc_low {c : Nat} (h : c < 128) : enc c = [UInt8.ofNat c] := by
  simp [enc, Lib.encodeRune, Lib.encodeRuneZ_one (r := (c : Int)) (by omega) (by omega)]
theorem encs_url : encs [117, 114, 108] = [117, 114, 108] := by
  simp only [encs, List.flatMap_cons, List.flatMap_nil, enc_low (show 117 < 128 by omega), enc_low (show 114 < 128 by omega), enc_low (show 108 < 128 by omega)]
  rfl
/-- an address without quotes -/
theorem addr_url {ascii : Bool} {r : List Nat} {T : Nat} (hT : T = (encs (addrF ascii 0 r)).length) (h : ∀ c ∈ r, Ok c) (hl : LowR ascii r) (hp : ∀ c ∈ r, unpB (c : Int) = false) (htr : trimB (encs r) = true) :
    nextF T (addrF ascii 0 r) = { tok := { kind := 37, text := encs r }, rest := [], opn := false } := by
  have hz : ∀ x ∈ qItems ascii 0 none r, x.2 = 0 → x.1 ≠ 41 ∧ x.1 ≠ 92 ∧ isSp (x.1 : Int) = false ∧ urlBad (x.1 : Int) 0 = false := by
    intro x hx h0
    obtain ⟨h1, p', t, e⟩ := qItems_mem hx
    rw [h0] at e
    obtain ⟨a1, _, a2, _, _, a3⟩ := qE_zero e.symm
    have a3 := a3 rfl
    refine ⟨a3.2.1, a1, ?_, ?_⟩
    · simp only [isNl, isSp, decide_eq_false_iff_not] at *; omega
    · have := hp _ h1
      unfold urlBad
      rw [this]
      have b1 : ¬ ((x.1 : Int) = 34 ∨ (x.1 : Int) = 39 ∨ (x.1 : Int) = 40) := by omega
      have b2 : ¬ ((x.1 : Int) = 92) := by omega
      simp [b1, b2]
  have hu : urlF (innerF ascii 0 r ++ [41]) = (37, r, [], false) := by
    have := url_out (qItems ascii 0 none r) [] (qItems_good h) hz (fun x hx h0 _ => qItems_low (by omega) hl x hx h0)
    rw [qItems_fst] at this
    exact this
  have hhead : isSp (pk (innerF ascii 0 r ++ [41]) 0) = false ∧ pk (innerF ascii 0 r ++ [41]) 0 ≠ 34 ∧ pk (innerF ascii 0 r ++ [41]) 0 ≠ 39 := by
    cases r with
    | nil => simp [innerF, qItems, outF, pk, isSp]
    | cons c t =>
      have hx : (c, qE ascii 0 none c t) ∈ qItems ascii 0 none (c :: t) := by simp [qItems]
      have hh := out_head (x := (c, qE ascii 0 none c t)) (t := qItems ascii 0 (some c) t) (may := false) (X := [41]) (qItems_good h _ hx)
      have e1 : pk (innerF ascii 0 (c :: t) ++ [41]) 0 = if escK c (qE ascii 0 none c t) = 0 then (c : Int) else 92 := hh
      rw [e1]
      split
      · rename_i h0
        have hz := hz _ hx (escK_zero h0)
        have hb := hz.2.2.2
        simp only [urlBad, Bool.or_eq_false_iff, decide_eq_false_iff_not] at hb
        exact ⟨hz.2.2.1, by have := hb.1.1; omega, by have := hb.1.1; omega⟩
      · decide
  have hp3 : (posN T (40 :: (innerF ascii 0 r ++ [41])) : Int) - posN T (addrF ascii 0 r) = 3 := by
    have := posN_app (A := [117, 114, 108]) (Q := 40 :: (innerF ascii 0 r ++ [41])) (by simp)
    rw [hT]
    exact this
  have e0 : addrF ascii 0 r = 117 :: 114 :: 108 :: 40 :: (innerF ascii 0 r ++ [41]) := rfl
  rw [e0, next_named (url_head _)]
  unfold namedF
  rw [url_name]
  have hs : spF (innerF ascii 0 r ++ [41]) = innerF ascii 0 r ++ [41] := spF_no hhead.1
  refine (if_neg ?_).trans ((if_pos ?_).trans ?_)
  · show ¬ (pk (40 :: (innerF ascii 0 r ++ [41])) 0 ≠ 40)
    rw [pk_cons]; decide
  · show isUrlB (encs [117, 114, 108]) = true ∧ pk (spF (innerF ascii 0 r ++ [41])) 0 ≠ 34 ∧ pk (spF (innerF ascii 0 r ++ [41])) 0 ≠ 39
    rw [hs]
    exact ⟨by rw [encs_url]; decide, hhead.2.1, hhead.2.2⟩
  · rw [e0] at hp3
    simp only [List.tail_cons, hs, hu, hp3, htr]
    rfl
/-- an address in quotes: the name, and what follows -/
theorem addr_fun {ascii : Bool} {q : Nat} {r : List Nat} {T : Nat} (hq : q = 34 ∨ q = 39) :
    nextF T (addrF ascii q r) = { tok := { kind := 27, text := [117, 114, 108] }, rest := quoteF ascii q r ++ [41], opn := false } := by
  have e0 : addrF ascii q r = 117 :: 114 :: 108 :: 40 :: (q :: (innerF ascii q r ++ q :: [41])) := by unfold addrF quoteF; rw [if_neg (by omega)]; simp
  have e1 : quoteF ascii q r ++ [41] = q :: (innerF ascii q r ++ q :: [41]) := by unfold quoteF; rw [if_neg (by omega)]; simp
  rw [e1, e0, next_named (url_head _)]
  unfold namedF
  rw [url_name]
  have hs : spF (q :: (innerF ascii q r ++ q :: [41])) = q :: (innerF ascii q r ++ q :: [41]) := spF_no (by rw [pk_cons]; rcases hq with rfl | rfl <;> decide)
  refine (if_neg ?_).trans ((if_neg ?_).trans ?_)
  · show ¬ (pk (40 :: (q :: (innerF ascii q r ++ q :: [41]))) 0 ≠ 40)
    rw [pk_cons]; decide
  · show ¬ (isUrlB (encs [117, 114, 108]) = true ∧ pk (spF (q :: (innerF ascii q r ++ q :: [41]))) 0 ≠ 34 ∧ pk (spF (q :: (innerF ascii q r ++ q :: [41]))) 0 ≠ 39)
    rw [hs, pk_cons]
    omega
  · simp only [List.tail_cons, encs_url]
theorem close_tok {T : Nat} : nextF T [41] = { tok := { kind := 8 }, rest := [], opn := false } := by
  simp [nextF, pk_cons, pk, isSp, cntB, digB, idB, startsB, escB, signK]
theorem toks_three {R : List Nat} {k1 k2 k3 : Tok} {R1 R2 : List Nat} {T : Nat} (hT : T = (encs R).length) (hc : pk R 0 ≠ 47) (hc1 : pk R1 0 ≠ 47) (hc2 : pk R2 0 ≠ 47) (hk1 : k1.kind ≠ 0) (hk2 : k2.kind ≠ 0) (hk3 : k3.kind ≠ 0) (hl : 3 ≤ R.length)
    (h1 : nextF T R = { tok := k1, rest := R1, opn := false }) (h2 : nextF T R1 = { tok := k2, rest := R2, opn := false }) (h3 : nextF T R2 = { tok := k3, rest := [], opn := false }) :
    ∃ a1 b1 a2 b2 a3 b3, toksF R = ([{ k1 with start := a1, stop := b1 }, { k2 with start := a2, stop := b2 }, { k3 with start := a3, stop := b3 }], 0, false) := by
  obtain ⟨n, hn⟩ : ∃ n, R.length = n + 3 := ⟨R.length - 3, by omega⟩
  have hend : toksG T (n + 1) [] = ([], 0, false) := by
    simp only [toksG, comF_no (r := []) (by simp [pk])]
    simp [nextF, pk]
  refine ⟨posN T R, posN T R1, posN T R1, posN T R2, posN T R2, posN T [], ?_⟩
  unfold toksF
  rw [← hT, hn, show n + 3 + 1 = (n + 1) + 1 + 1 + 1 from rfl]
  rw [toksG, comF_no (fun e => hc e.1), h1]
  simp only [if_neg hk1]
  rw [toksG, comF_no (fun e => hc1 e.1), h2]
  simp only [if_neg hk2]
  rw [toksG, comF_no (fun e => hc2 e.1), h3]
  simp only [if_neg hk3, hend, Bool.or_false, Nat.zero_add]
end Go.Proofs.YtmomkkakjkkakaaFmt.Pl
