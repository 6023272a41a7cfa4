/-
  PLAIN LEAN, no program in sight: what is printed with escapes is read back as what was meant: as a name, as a string, as an address, and by the package's own decoder.
-/
import Derived.Test.YtmomkkakjkkakaaFmtPlain
set_option linter.unusedVariables false
set_option linter.unusedSimpArgs false
namespace Go.Proofs.YtmomkkakjkkakaaFmt.Pl
open Go

/-! ## hexadecimal digits as fmt prints them -/
def hd (d : Nat) : Nat := if d < 10 then 48 + d else 87 + d
def hexW : Nat → Nat → List Nat → List Nat
  | 0, _, acc => acc
  | f + 1, c, acc => if c < 16 then hd c :: acc else hexW f (c / 16) (hd (c % 16) :: acc)
def hexs (c : Nat) : List Nat := hexW 64 c []
theorem hexv_hd {d : Nat} (h : d < 16) : hexv (hd d : Int) = d := by
  unfold hexv hd
  split <;> simp only [Int.natCast_add] <;> (repeat' split) <;> omega
theorem hexW_lt {c f : Nat} {acc : List Nat} (h : c < 16) : hexW (f + 1) c acc = hd c :: acc := by simp [hexW, h]
theorem hexW_ge {c f : Nat} {acc : List Nat} (h : 16 ≤ c) : hexW (f + 1) c acc = hexW f (c / 16) (hd (c % 16) :: acc) := by
  rw [hexW, if_neg (by omega)]
theorem hexs1 {c : Nat} (h : c < 16) : hexs c = [hd c] := hexW_lt h
theorem hexs2 {c : Nat} (h0 : 16 ≤ c) (h : c < 256) : hexs c = [hd (c / 16), hd (c % 16)] := by
  unfold hexs; rw [hexW_ge h0, hexW_lt (by omega)]
theorem hexs3 {c : Nat} (h0 : 256 ≤ c) (h : c < 4096) : hexs c = [hd (c / 256), hd (c / 16 % 16), hd (c % 16)] := by
  unfold hexs; rw [hexW_ge (by omega), hexW_ge (by omega), hexW_lt (by omega)]
  simp only [Nat.div_div_eq_div_mul]
theorem hexs4 {c : Nat} (h0 : 4096 ≤ c) (h : c < 65536) : hexs c = [hd (c / 4096), hd (c / 256 % 16), hd (c / 16 % 16), hd (c % 16)] := by
  unfold hexs; rw [hexW_ge (by omega), hexW_ge (by omega), hexW_ge (by omega), hexW_lt (by omega)]
  simp only [Nat.div_div_eq_div_mul]
theorem hexs5 {c : Nat} (h0 : 65536 ≤ c) (h : c < 1048576) : hexs c = [hd (c / 65536), hd (c / 4096 % 16), hd (c / 256 % 16), hd (c / 16 % 16), hd (c % 16)] := by
  unfold hexs; rw [hexW_ge (by omega), hexW_ge (by omega), hexW_ge (by omega), hexW_ge (by omega), hexW_lt (by omega)]
  simp only [Nat.div_div_eq_div_mul]
theorem hexs6 {c : Nat} (h0 : 1048576 ≤ c) (h : c < 16777216) : hexs c = [hd (c / 1048576), hd (c / 65536 % 16), hd (c / 4096 % 16), hd (c / 256 % 16), hd (c / 16 % 16), hd (c % 16)] := by
  unfold hexs; rw [hexW_ge (by omega), hexW_ge (by omega), hexW_ge (by omega), hexW_ge (by omega), hexW_ge (by omega), hexW_lt (by omega)]
  simp only [Nat.div_div_eq_div_mul]

def valH (v : Int) (ds : List Nat) : Int := ds.foldl (fun (a : Int) (d : Nat) => a * 16 + hexv (d : Int)) v
/-- digits that spell a number, one to six -/
structure Spells (ds : List Nat) (c : Nat) : Prop where
  ne : ds ≠ []
  all : ∀ d ∈ ds, 0 ≤ hexv (d : Int)
  len : ds.length ≤ 6
  val : valH 0 ds = c
theorem hexs_spells {c : Nat} (h : c < 16777216) : Spells (hexs c) c := by
  have p : ∀ d, d < 16 → hexv (hd d : Int) = d := fun d => hexv_hd
  have q : ∀ d, d < 16 → 0 ≤ hexv (hd d : Int) := fun d hd' => by rw [p d hd']; omega
  rcases Nat.lt_or_ge c 16 with h1 | h1
  · rw [hexs1 h1]; exact ⟨by simp, by simp [q c h1], by simp, by simp [valH, p c h1]⟩
  rcases Nat.lt_or_ge c 256 with h2 | h2
  · rw [hexs2 h1 h2]
    have a := p (c / 16) (by omega); have b := p (c % 16) (by omega)
    refine ⟨by simp, ?_, by simp, ?_⟩
    · intro d hd'; simp at hd'; rcases hd' with rfl | rfl <;> apply q <;> omega
    · simp only [valH, List.foldl_cons, List.foldl_nil, a, b]; omega
  rcases Nat.lt_or_ge c 4096 with h3 | h3
  · rw [hexs3 h2 h3]
    have a := p (c / 256) (by omega); have b := p (c / 16 % 16) (by omega); have e := p (c % 16) (by omega)
    refine ⟨by simp, ?_, by simp, ?_⟩
    · intro d hd'; simp at hd'; rcases hd' with rfl | rfl | rfl <;> apply q <;> omega
    · simp only [valH, List.foldl_cons, List.foldl_nil, a, b, e]; omega
  rcases Nat.lt_or_ge c 65536 with h4 | h4
  · rw [hexs4 h3 h4]
    have a := p (c / 4096) (by omega); have b := p (c / 256 % 16) (by omega); have e := p (c / 16 % 16) (by omega); have f := p (c % 16) (by omega)
    refine ⟨by simp, ?_, by simp, ?_⟩
    · intro d hd'; simp at hd'; rcases hd' with rfl | rfl | rfl | rfl <;> apply q <;> omega
    · simp only [valH, List.foldl_cons, List.foldl_nil, a, b, e, f]; omega
  rcases Nat.lt_or_ge c 1048576 with h5 | h5
  · rw [hexs5 h4 h5]
    have a := p (c / 65536) (by omega); have b := p (c / 4096 % 16) (by omega); have e := p (c / 256 % 16) (by omega); have f := p (c / 16 % 16) (by omega); have g := p (c % 16) (by omega)
    refine ⟨by simp, ?_, by simp, ?_⟩
    · intro d hd'; simp at hd'; rcases hd' with rfl | rfl | rfl | rfl | rfl <;> apply q <;> omega
    · simp only [valH, List.foldl_cons, List.foldl_nil, a, b, e, f, g]; omega
  · rw [hexs6 h5 h]
    have a := p (c / 1048576) (by omega); have a' := p (c / 65536 % 16) (by omega); have b := p (c / 4096 % 16) (by omega); have e := p (c / 256 % 16) (by omega); have f := p (c / 16 % 16) (by omega); have g := p (c % 16) (by omega)
    refine ⟨by simp, ?_, by simp, ?_⟩
    · intro d hd'; simp at hd'; rcases hd' with rfl | rfl | rfl | rfl | rfl | rfl <;> apply q <;> omega
    · simp only [valH, List.foldl_cons, List.foldl_nil, a, a', b, e, f, g]; omega
theorem hexs_short {c : Nat} (h : c < 1048576) : (hexs c).length ≤ 5 := by
  rcases Nat.lt_or_ge c 16 with h1 | h1
  · rw [hexs1 h1]; simp
  rcases Nat.lt_or_ge c 256 with h2 | h2
  · rw [hexs2 h1 h2]; simp
  rcases Nat.lt_or_ge c 4096 with h3 | h3
  · rw [hexs3 h2 h3]; simp
  rcases Nat.lt_or_ge c 65536 with h4 | h4
  · rw [hexs4 h3 h4]; simp
  · rw [hexs5 h4 h]; simp

/-! ## an escape is read -/
theorem hexN_read : ∀ (ds : List Nat) (k : Nat) (v : Int) (t : List Nat), (∀ d ∈ ds, 0 ≤ hexv (d : Int)) → ds.length ≤ k → (ds.length = k ∨ hexv (pk t 0) < 0) →
    hexN k v (ds ++ t) = (valH v ds, t)
  | [], k, v, t, _, _, h => by
    simp only [List.nil_append, valH, List.foldl_nil]
    cases k with
    | zero => simp [hexN]
    | succ k =>
      cases t with
      | nil => simp [hexN]
      | cons c t =>
        have h : hexv (c : Int) < 0 := by simpa [pk_cons] using h
        simp only [hexN]; rw [if_neg (by omega)]
  | d :: ds, k, v, t, ha, hl, h => by
    cases k with
    | zero => simp at hl
    | succ k =>
      simp only [List.length_cons] at hl h
      simp only [List.cons_append, hexN]
      rw [if_pos (ha d (by simp)), hexN_read ds k _ t (fun x hx => ha x (by simp [hx])) (by omega) (by omega)]
      simp [valH]

theorem fixv_ok {c : Nat} (h : Ok c) : fixv (c : Int) = c := by
  unfold fixv
  obtain ⟨h1, h2⟩ := h
  unfold Sc at h1
  rw [if_neg (by omega)]; simp

theorem nl_sp {c : Int} (h : isSp c = false) : isNl c = false := by
  simp only [isSp, isNl, decide_eq_false_iff_not] at *; omega
theorem hex_sp {c : Int} (h : 0 ≤ hexv c) : isSp c = false := by
  simp only [isSp, decide_eq_false_iff_not]
  intro e
  have : hexv c = -1 := by unfold hexv; rcases e with rfl | rfl | rfl | rfl | rfl <;> rfl
  omega

/-- digits, a blank or none, and what follows -/
theorem escF_hex {ds t : List Nat} {c : Nat} (hs : Spells ds c) (hc : Ok c) (sp : List Nat)
    (h : sp = [32] ∨ (sp = [] ∧ (ds.length = 6 ∨ hexv (pk t 0) < 0) ∧ isSp (pk t 0) = false)) :
    escF (ds ++ (sp ++ t)) = (c, t, false) := by
  obtain ⟨ne, all, len, val⟩ := hs
  have hd0 : 0 ≤ hexv (pk (ds ++ (sp ++ t)) 0) := by
    cases ds with
    | nil => exact absurd rfl ne
    | cons d ds => simp only [List.cons_append, pk_cons]; exact all d (by simp)
  unfold escF
  rw [if_neg (by omega)]
  rcases h with rfl | ⟨rfl, h1, h2⟩
  · rw [hexN_read ds 6 0 ([32] ++ t) all len (Or.inr (by simp [pk_cons, hexv])), val]
    simp [pk_cons, isNl, isSp, fixv_ok hc]
  · simp only [List.nil_append]
    rw [hexN_read ds 6 0 t all len h1, val]
    simp [nl_sp h2, h2, fixv_ok hc]

/-! ## the printer's escapes -/
def needSp (d : Nat) : Bool := decide (d = 32 ∨ d = 9 ∨ 0 ≤ hexv (d : Int))
/-- the blank behind a hexadecimal escape -/
def tailSp (c : Nat) (nx : Option Nat) (may : Bool) : List Nat :=
  if (hexs c).length < 6 then (match nx with | some d => if needSp d then [32] else [] | none => if may then [32] else []) else []
/-- the escape that is written: 0: none, 1: a backslash, 2: hexadecimal -/
def escK (c e : Nat) : Nat := if e = 1 ∧ 0 ≤ hexv (c : Int) then 2 else e
def pweF (c e : Nat) (nx : Option Nat) (may : Bool) : List Nat :=
  if escK c e = 0 then [c] else if escK c e = 1 then [92, c] else 92 :: (hexs c ++ tailSp c nx may)
def outF : List (Nat × Nat) → Bool → List Nat
  | [], _ => []
  | (c, e) :: t, may => pweF c e (t.head?.map (·.1)) may ++ outF t may

/-- an item that can stand in any text: no end of a line but as a number -/
structure Good (x : Nat × Nat) : Prop where
  ok : Ok x.1
  le : x.2 ≤ 2
  nl : x.2 ≠ 2 → isNl (x.1 : Int) = false
theorem Ok.lt {c : Nat} (h : Ok c) : c < 16777216 := by obtain ⟨h1, _⟩ := h; unfold Sc at h1; omega

theorem pweF_raw {c e : Nat} {nx : Option Nat} {may : Bool} (h : escK c e = 0) : pweF c e nx may = [c] := by simp [pweF, h]
theorem pweF_back {c e : Nat} {nx : Option Nat} {may : Bool} (h : escK c e = 1) : pweF c e nx may = [92, c] := by simp [pweF, h]
theorem pweF_hex {c e : Nat} {nx : Option Nat} {may : Bool} (h : escK c e = 2) : pweF c e nx may = 92 :: (hexs c ++ tailSp c nx may) := by simp [pweF, h]
theorem escK_zero {c e : Nat} (h : escK c e = 0) : e = 0 := by unfold escK at h; split at h <;> omega
theorem escK_one {c e : Nat} (h : escK c e = 1) : e = 1 ∧ hexv (c : Int) < 0 := by unfold escK at h; split at h <;> omega
theorem escK_cases (x : Nat × Nat) (h : Good x) : escK x.1 x.2 = 0 ∨ escK x.1 x.2 = 1 ∨ escK x.1 x.2 = 2 := by
  have := h.le; unfold escK; split <;> omega

/-- what stands first in what is printed -/
theorem out_head {x : Nat × Nat} {t : List (Nat × Nat)} {may : Bool} {X : List Nat} (h : Good x) :
    pk (outF (x :: t) may ++ X) 0 = if escK x.1 x.2 = 0 then (x.1 : Int) else 92 := by
  obtain ⟨c, e⟩ := x
  rcases escK_cases _ h with h1 | h1 | h1 <;> simp only at h1 <;> simp [outF, pweF, h1, pk]

/-- a hexadecimal escape within what is printed is read as its code point -/
theorem esc_item {c : Nat} {t : List (Nat × Nat)} {may : Bool} {X : List Nat} (hc : Ok c) (hg : ∀ x ∈ t, Good x)
    (hlow : ∀ x, t.head? = some x → escK x.1 x.2 = 0 → 1048576 ≤ c → isSp (x.1 : Int) = false)
    (hX : t = [] → (may = true ∧ (1048576 ≤ c → isSp (pk X 0) = false)) ∨ (hexv (pk X 0) < 0 ∧ isSp (pk X 0) = false)) :
    escF (hexs c ++ (tailSp c (t.head?.map (·.1)) may ++ (outF t may ++ X))) = (c, outF t may ++ X, false) := by
  have hs := hexs_spells hc.lt
  have hl := hs.len
  refine escF_hex hs hc _ ?_
  unfold tailSp
  by_cases h6 : (hexs c).length < 6
  · rw [if_pos h6]
    cases t with
    | nil =>
      simp only [List.head?_nil, Option.map_none, outF, List.nil_append]
      rcases hX rfl with ⟨hm, _⟩ | ⟨h1, h2⟩
      · left; simp [hm]
      · cases may
        · right; exact ⟨rfl, Or.inr h1, h2⟩
        · left; simp
    | cons x t =>
      simp only [List.head?_cons, Option.map_some]
      by_cases hn : needSp x.1 = true
      · left; simp [hn]
      · right
        have hn' : needSp x.1 = false := by simpa using hn
        refine ⟨by simp [hn'], Or.inr ?_, ?_⟩
        · rw [out_head (hg x (by simp))]
          split
          · unfold needSp at hn'; simp only [decide_eq_false_iff_not] at hn'; omega
          · decide
        · rw [out_head (hg x (by simp))]
          split
          · rename_i h0
            have hnl := (hg x (by simp)).nl (by rw [escK_zero h0]; decide)
            unfold needSp at hn'
            simp only [decide_eq_false_iff_not, isNl, isSp] at *; omega
          · decide
  · rw [if_neg h6]
    have hbig : 1048576 ≤ c := by
      rcases Nat.lt_or_ge c 1048576 with h | h
      · have := hexs_short h; omega
      · exact h
    right
    refine ⟨rfl, Or.inl (by omega), ?_⟩
    cases t with
    | nil =>
      simp only [outF, List.nil_append]
      rcases hX rfl with ⟨_, h⟩ | ⟨_, h⟩
      · exact h hbig
      · exact h
    | cons x t =>
      rw [out_head (hg x (by simp))]
      split
      · rename_i h0; exact hlow x rfl h0 hbig
      · decide

/-! ## as a name -/
theorem conts_sp {c : Int} (h : contsB c = true) : isSp c = false := by
  simp only [contsB, isSp, decide_eq_true_eq, decide_eq_false_iff_not] at *; omega
theorem hexs_head_nl {c : Nat} (h : c < 16777216) (X : List Nat) : isNl (pk (hexs c ++ X) 0) = false := by
  have hs := hexs_spells h
  obtain ⟨ne, all, _, _⟩ := hs
  cases hh : hexs c with
  | nil => exact absurd hh ne
  | cons d ds =>
    rw [hh] at all
    exact nl_sp (hex_sp (by simp only [List.cons_append, pk_cons]; exact all d (by simp)))

theorem name_out : ∀ (es : List (Nat × Nat)) (may : Bool) (X : List Nat), (∀ x ∈ es, Good x) → (∀ x ∈ es, x.2 = 0 → contsB (x.1 : Int) = true) →
    (es ≠ [] → (may = true ∧ isSp (pk X 0) = false) ∨ (hexv (pk X 0) < 0 ∧ isSp (pk X 0) = false)) →
    nameF (outF es may ++ X) = (es.map (·.1) ++ (nameF X).1, (nameF X).2.1, (nameF X).2.2)
  | [], may, X, _, _, _ => by simp [outF]
  | (c, e) :: t, may, X, hg, hn, hX => by
    have g := hg (c, e) (by simp)
    have ih := name_out t may X (fun x hx => hg x (by simp [hx])) (fun x hx => hn x (by simp [hx])) (fun _ => hX (by simp))
    rcases escK_cases _ g with h1 | h1 | h1 <;> simp only at h1
    · have hcont := hn (c, e) (by simp) (escK_zero h1)
      simp only [outF, pweF_raw h1, List.append_assoc, List.cons_append, List.nil_append]
      rw [nameF_conts (by rw [pk_cons]; exact hcont)]
      simp only [List.tail_cons, ih, pk_cons, List.map_cons, List.cons_append, Int.toNat_natCast]
    · obtain ⟨he, hh⟩ := escK_one h1
      have hnl := g.nl (by simp [he])
      simp only [outF, pweF_back h1, List.append_assoc, List.cons_append, List.nil_append]
      have e1 : escF (c :: (outF t may ++ X)) = (c, outF t may ++ X, false) := by
        unfold escF; rw [if_pos (by rw [pk_cons]; exact hh)]
      rw [nameF_esc (by rw [pk_cons]; decide) (by simp only [pk_cons, pk_cons1, escB]; simp only at hnl; simp [hnl])]
      simp only [List.tail_cons, e1, ih, List.map_cons, List.cons_append, Bool.false_or]
    · simp only [outF, pweF_hex h1, List.append_assoc, List.cons_append]
      have e1 := esc_item (c := c) (t := t) (may := may) (X := X) g.ok (fun x hx => hg x (by simp [hx]))
        (fun x hx h0 _ => conts_sp (hn x (by cases t with | nil => simp at hx | cons y t => simp at hx; subst hx; simp) (escK_zero h0)))
        (fun _ => by rcases hX (by simp) with ⟨a, b⟩ | ⟨a, b⟩ <;> simp [a, b])
      rw [nameF_esc (by rw [pk_cons]; decide) (by
        have := hexs_head_nl g.ok.lt (tailSp c (t.head?.map (·.1)) may ++ (outF t may ++ X))
        simp only [pk_cons, pk_cons1, escB, this]; rfl)]
      simp only [List.tail_cons, e1, ih, List.map_cons, List.cons_append, Bool.false_or]

/-! ## as a string -/
theorem quot_out : ∀ (es : List (Nat × Nat)) (q : Nat) (Y : List Nat), (q = 34 ∨ q = 39) → (∀ x ∈ es, Good x) → (∀ x ∈ es, x.2 = 0 → x.1 ≠ q ∧ x.1 ≠ 92) →
    (∀ x ∈ es, x.2 ≠ 0 → escK x.1 x.2 = 2 → x.1 < 1048576) →
    quotF q (outF es false ++ q :: Y) = (36, es.map (·.1), Y, false)
  | [], q, Y, hq, _, _, _ => by
    simp only [outF, List.nil_append]
    rw [quotF_end (by simp) (by rw [pk_cons])]; simp
  | (c, e) :: t, q, Y, hq, hg, hn, hl => by
    have g := hg (c, e) (by simp)
    have ih := quot_out t q Y hq (fun x hx => hg x (by simp [hx])) (fun x hx => hn x (by simp [hx])) (fun x hx => hl x (by simp [hx]))
    have hq92 : ((92 : Nat) : Int) ≠ q := by omega
    rcases escK_cases _ g with h1 | h1 | h1 <;> simp only at h1
    · have h0 := escK_zero h1
      have hne := hn (c, e) (by simp) h0
      have hnl := g.nl (by simp [h0])
      simp only at hne hnl
      simp only [outF, pweF_raw h1, List.append_assoc, List.cons_append, List.nil_append]
      rw [quotF_char (by simp) (by rw [pk_cons]; omega) (by rw [pk_cons]; exact hnl) (by rw [pk_cons]; omega)]
      simp only [List.tail_cons, ih, pk_cons, List.map_cons, Int.toNat_natCast]; simp
    · obtain ⟨he, hh⟩ := escK_one h1
      have hnl := g.nl (by simp [he])
      simp only at hnl
      simp only [outF, pweF_back h1, List.append_assoc, List.cons_append, List.nil_append]
      have e1 : escF (c :: (outF t false ++ q :: Y)) = (c, outF t false ++ q :: Y, false) := by
        unfold escF; rw [if_pos (by rw [pk_cons]; exact hh)]
      rw [quotF_esc (by simp) (by rw [pk_cons]; exact hq92) (by rfl) (by rfl) (by rw [pk_cons1, pk_cons]; omega) (by rw [pk_cons1, pk_cons]; exact hnl)]
      simp only [List.tail_cons, e1, ih, List.map_cons]; simp
    · simp only [outF, pweF_hex h1, List.append_assoc, List.cons_append]
      have hlow : c < 1048576 := hl (c, e) (by simp) (by intro h0; simp only at h0; rw [h0] at h1; simp [escK] at h1) h1
      have e1 := esc_item (c := c) (t := t) (may := false) (X := q :: Y) g.ok (fun x hx => hg x (by simp [hx]))
        (fun x _ _ hb => absurd hlow (by omega))
        (fun _ => Or.inr (by rw [pk_cons]; rcases hq with rfl | rfl <;> decide))
      have hnl := hexs_head_nl g.ok.lt (tailSp c (t.head?.map (·.1)) false ++ (outF t false ++ q :: Y))
      have hne : pk (hexs c ++ (tailSp c (t.head?.map (·.1)) false ++ (outF t false ++ q :: Y))) 0 ≠ -1 := by
        have hs := (hexs_spells g.ok.lt).ne
        cases hh : hexs c with
        | nil => exact absurd hh hs
        | cons d ds => simp only [List.cons_append, pk_cons]; omega
      rw [quotF_esc (by simp) (by rw [pk_cons]; exact hq92) (by rfl) (by rfl) (by rw [pk_cons1]; exact hne) (by rw [pk_cons1]; exact hnl)]
      simp only [List.tail_cons, e1, ih, List.map_cons]; simp

/-! ## as an address without quotes -/
theorem url_out : ∀ (es : List (Nat × Nat)) (Y : List Nat), (∀ x ∈ es, Good x) →
    (∀ x ∈ es, x.2 = 0 → x.1 ≠ 41 ∧ x.1 ≠ 92 ∧ isSp (x.1 : Int) = false ∧ urlBad (x.1 : Int) 0 = false) →
    (∀ x ∈ es, x.2 ≠ 0 → escK x.1 x.2 = 2 → x.1 < 1048576) →
    urlF (outF es false ++ 41 :: Y) = (37, es.map (·.1), Y, false)
  | [], Y, _, _, _ => by
    simp only [outF, List.nil_append]
    rw [urlF_end (by simp) (by rw [pk_cons]; rfl)]; simp
  | (c, e) :: t, Y, hg, hn, hl => by
    have g := hg (c, e) (by simp)
    have ih := url_out t Y (fun x hx => hg x (by simp [hx])) (fun x hx => hn x (by simp [hx])) (fun x hx => hl x (by simp [hx]))
    rcases escK_cases _ g with h1 | h1 | h1 <;> simp only at h1
    · have h0 := escK_zero h1
      obtain ⟨n1, n2, n3, n4⟩ := hn (c, e) (by simp) h0
      simp only at n1 n2 n3 n4
      simp only [outF, pweF_raw h1, List.append_assoc, List.cons_append, List.nil_append]
      have n5 : ∀ b : Int, urlBad (c : Int) b = false := by
        intro b
        unfold urlBad at n4 ⊢
        have : (c : Int) ≠ 92 := by omega
        simp only [this, decide_false, Bool.false_and, Bool.or_false] at n4 ⊢
        exact n4
      rw [urlF_char (by simp) (by rw [pk_cons]; omega) (by rw [pk_cons]; exact n3) (by rw [pk_cons]; exact n5 _) (by rw [pk_cons]; omega)]
      simp only [List.tail_cons, ih, pk_cons, List.map_cons, Int.toNat_natCast]; simp
    · obtain ⟨he, hh⟩ := escK_one h1
      have hnl := g.nl (by simp [he])
      simp only at hnl
      simp only [outF, pweF_back h1, List.append_assoc, List.cons_append, List.nil_append]
      have e1 : escF (c :: (outF t false ++ 41 :: Y)) = (c, outF t false ++ 41 :: Y, false) := by
        unfold escF; rw [if_pos (by rw [pk_cons]; exact hh)]
      rw [urlF_esc (by simp) (by rw [pk_cons]; decide) (by rfl) (by rw [pk_cons1, pk_cons, pk_cons]; simp [urlBad, unpB, escB, hnl]) (by rfl)]
      simp only [List.tail_cons, e1, ih, List.map_cons]; simp
    · simp only [outF, pweF_hex h1, List.append_assoc, List.cons_append]
      have hlow : c < 1048576 := hl (c, e) (by simp) (by intro h0; simp only at h0; rw [h0] at h1; simp [escK] at h1) h1
      have e1 := esc_item (c := c) (t := t) (may := false) (X := 41 :: Y) g.ok (fun x hx => hg x (by simp [hx]))
        (fun x _ _ hb => absurd hlow (by omega))
        (fun _ => Or.inr (by rw [pk_cons]; decide))
      have hnl := hexs_head_nl g.ok.lt (tailSp c (t.head?.map (·.1)) false ++ (outF t false ++ 41 :: Y))
      rw [urlF_esc (by simp) (by rw [pk_cons]; decide) (by rfl) (by rw [pk_cons1, pk_cons]; simp [urlBad, unpB, escB, hnl]) (by rfl)]
      simp only [List.tail_cons, e1, ih, List.map_cons]; simp

/-! ## the package's own decoder -/
/-- decodeEscapesInToken -/
def decF (r : List Nat) : List Nat :=
  if h0 : r = [] then []
  else if pk r 0 ≠ 92 then (pk r 0).toNat :: decF r.tail
  else if pk r 1 = -1 then [65533]
  else if hexv (pk r 1) < 0 then
    if pk r 1 = 10 ∨ pk r 1 = 12 then decF (r.drop 2)
    else if pk r 1 = 13 then (if pk r 2 = 10 then decF (r.drop 3) else decF (r.drop 2))
    else (pk r 1).toNat :: decF (r.drop 2)
  else fixv (hexN 6 0 r.tail).1 :: (if isSp (pk (hexN 6 0 r.tail).2 0) = true then decF (hexN 6 0 r.tail).2.tail else decF (hexN 6 0 r.tail).2)
termination_by r.length
decreasing_by
  all_goals
    have h1 := tail_lt h0
    have h2 := hexN_len 6 0 r.tail
    have h3 : 0 < r.length := by omega
    first
      | exact h1
      | (simp only [List.length_drop]; omega)
      | (simp only [List.length_tail] at *; omega)

theorem decF_nil : decF [] = [] := by rw [decF, dif_pos rfl]
theorem decF_char {r : List Nat} (h0 : r ≠ []) (h : pk r 0 ≠ 92) : decF r = (pk r 0).toNat :: decF r.tail := by rw [decF, dif_neg h0, if_pos h]
theorem decF_last {r : List Nat} (h0 : r ≠ []) (h : pk r 0 = 92) (h1 : pk r 1 = -1) : decF r = [65533] := by rw [decF, dif_neg h0, if_neg (by simp [h]), if_pos h1]
theorem decF_nl {r : List Nat} (h0 : r ≠ []) (h : pk r 0 = 92) (h1 : pk r 1 ≠ -1) (h2 : hexv (pk r 1) < 0) (h3 : pk r 1 = 10 ∨ pk r 1 = 12) : decF r = decF (r.drop 2) := by
  rw [decF, dif_neg h0, if_neg (by simp [h]), if_neg h1, if_pos h2, if_pos h3]
theorem decF_crlf {r : List Nat} (h0 : r ≠ []) (h : pk r 0 = 92) (h1 : pk r 1 = 13) (h2 : pk r 2 = 10) : decF r = decF (r.drop 3) := by
  rw [decF, dif_neg h0, if_neg (by simp [h]), if_neg (by omega), if_pos (by rw [h1]; decide), if_neg (by omega), if_pos h1, if_pos h2]
theorem decF_cr {r : List Nat} (h0 : r ≠ []) (h : pk r 0 = 92) (h1 : pk r 1 = 13) (h2 : pk r 2 ≠ 10) : decF r = decF (r.drop 2) := by
  rw [decF, dif_neg h0, if_neg (by simp [h]), if_neg (by omega), if_pos (by rw [h1]; decide), if_neg (by omega), if_pos h1, if_neg h2]
theorem decF_back {r : List Nat} (h0 : r ≠ []) (h : pk r 0 = 92) (h1 : pk r 1 ≠ -1) (h2 : hexv (pk r 1) < 0) (h3 : isNl (pk r 1) = false) : decF r = (pk r 1).toNat :: decF (r.drop 2) := by
  simp only [isNl, decide_eq_false_iff_not] at h3
  rw [decF, dif_neg h0, if_neg (by simp [h]), if_neg h1, if_pos h2, if_neg (by omega), if_neg (by omega)]
theorem decF_hex {r : List Nat} (h0 : r ≠ []) (h : pk r 0 = 92) (h2 : 0 ≤ hexv (pk r 1)) :
    decF r = fixv (hexN 6 0 r.tail).1 :: (if isSp (pk (hexN 6 0 r.tail).2 0) = true then decF (hexN 6 0 r.tail).2.tail else decF (hexN 6 0 r.tail).2) := by
  have h1 : pk r 1 ≠ -1 := by intro e; rw [e] at h2; simp [hexv] at h2
  rw [decF, dif_neg h0, if_neg (by simp [h]), if_neg h1, if_neg (by omega)]
theorem pk_tail (r : List Nat) (k : Nat) : pk r.tail k = pk r (k + 1) := by cases r <;> simp [pk]
/-- behind a backslash the two readers agree, but at an end of a line behind digits -/
theorem decF_esc {r : List Nat} (h0 : r ≠ []) (h : pk r 0 = 92) (h1 : isNl (pk r 1) = false) (ho : (escF r.tail).2.2 = false) :
    decF r = (escF r.tail).1 :: decF (escF r.tail).2.1 := by
  by_cases hx : hexv (pk r 1) < 0
  · cases r with
    | nil => exact absurd rfl h0
    | cons a r =>
      cases r with
      | nil => simp [escF, pk, hexv] at ho
      | cons c r =>
        have e1 : escF (c :: r) = (c, r, false) := by unfold escF; rw [if_pos (by simpa [pk_cons1, pk_cons] using hx)]
        rw [decF_back h0 h (by rw [pk_cons1, pk_cons]; omega) hx h1]
        simp [e1, pk_cons1, pk_cons]
  · rw [decF_hex h0 h (by omega)]
    unfold escF at ho ⊢
    rw [pk_tail, if_neg hx] at ho ⊢
    split at ho
    · simp at ho
    · rename_i hn
      rw [if_neg hn]
      split <;> rfl

theorem dec_out : ∀ (es : List (Nat × Nat)) (may : Bool), (∀ x ∈ es, Good x) → (∀ x ∈ es, x.2 = 0 → x.1 ≠ 92) →
    (∀ x ∈ es, (escK x.1 x.2 = 2 → x.1 < 1048576) ∨ (∀ y ∈ es, y.2 = 0 → isSp (y.1 : Int) = false)) →
    decF (outF es may) = es.map (·.1)
  | [], may, _, _, _ => by simp [outF, decF_nil]
  | (c, e) :: t, may, hg, hn, hl => by
    have g := hg (c, e) (by simp)
    have ih := dec_out t may (fun x hx => hg x (by simp [hx])) (fun x hx => hn x (by simp [hx]))
      (fun x hx => (hl x (by simp [hx])).imp id (fun h y hy => h y (by simp [hy])))
    rcases escK_cases _ g with h1 | h1 | h1 <;> simp only at h1
    · have h0 := escK_zero h1
      have hne := hn (c, e) (by simp) h0
      simp only at hne
      simp only [outF, pweF_raw h1, List.cons_append, List.nil_append]
      rw [decF_char (by simp) (by rw [pk_cons]; omega)]
      simp only [List.tail_cons, ih, pk_cons, List.map_cons, Int.toNat_natCast]
    · obtain ⟨he, hh⟩ := escK_one h1
      have hnl := g.nl (by simp [he])
      simp only at hnl
      simp only [outF, pweF_back h1, List.cons_append, List.nil_append]
      have e1 : escF (c :: outF t may) = (c, outF t may, false) := by
        unfold escF; rw [if_pos (by rw [pk_cons]; exact hh)]
      rw [decF_esc (by simp) (by rfl) (by rw [pk_cons1, pk_cons]; exact hnl) (by simp [e1])]
      simp only [List.tail_cons, e1, ih, List.map_cons]
    · simp only [outF, pweF_hex h1, List.append_assoc, List.cons_append]
      have e1 := esc_item (c := c) (t := t) (may := may) (X := []) g.ok (fun x hx => hg x (by simp [hx]))
        (fun x hx h0 hb => by
          have hx' : x ∈ t := by cases t with | nil => simp at hx | cons y t => simp at hx; subst hx; simp
          rcases hl (c, e) (by simp) with h | h
          · have := h h1; simp only at this; omega
          · exact h x (by simp [hx']) (escK_zero h0))
        (fun _ => Or.inr (by decide))
      simp only [List.append_nil] at e1
      have hnl := hexs_head_nl g.ok.lt (tailSp c (t.head?.map (·.1)) may ++ outF t may)
      rw [decF_esc (by simp) (by rfl) (by rw [pk_cons1]; exact hnl) (by simp [e1])]
      simp only [List.tail_cons, e1, ih, List.map_cons]

end Go.Proofs.YtmomkkakjkkakaaFmt.Pl
