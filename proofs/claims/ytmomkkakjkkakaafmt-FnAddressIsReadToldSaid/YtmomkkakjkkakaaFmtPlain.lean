/-
  PLAIN LEAN, no program in sight: texts as lists of code points, the standard's reader (package spec) and esbuild's printer as functions on such lists.
-/
import Derived.Lib.RuneBytes
import Derived.Lib.DecodeN
set_option linter.unusedVariables false
set_option linter.unusedSimpArgs false
namespace Go.Proofs.YtmomkkakjkkakaaFmt.Pl
open Go

/-! ## code points and their bytes -/
def Sc (c : Nat) : Prop := c < 55296 ∨ (57344 ≤ c ∧ c ≤ 1114111)
instance (c : Nat) : Decidable (Sc c) := by unfold Sc; infer_instance
/-- what stands in a plain text -/
def Ok (c : Nat) : Prop := Sc c ∧ c ≠ 0
instance (c : Nat) : Decidable (Ok c) := by unfold Ok; infer_instance
def enc (c : Nat) : List UInt8 := Lib.encodeRune (c : Int)
def encs (l : List Nat) : List UInt8 := l.flatMap enc

theorem encs_nil : encs [] = [] := rfl
theorem encs_cons (c : Nat) (l : List Nat) : encs (c :: l) = enc c ++ encs l := by simp [encs]
theorem encs_append (a b : List Nat) : encs (a ++ b) = encs a ++ encs b := by simp [encs]

/-! ## the standard's reader -/
/-- the code point that comes k places further; -1: the end -/
def pk (r : List Nat) (k : Nat) : Int := match r[k]? with | some c => (c : Int) | none => -1
def hexv (c : Int) : Int := if 48 ≤ c ∧ c ≤ 57 then c - 48 else if 97 ≤ c ∧ c ≤ 102 then c - 87 else if 65 ≤ c ∧ c ≤ 70 then c - 55 else -1
def isNl (c : Int) : Bool := decide (c = 10 ∨ c = 13 ∨ c = 12)
def isSp (c : Int) : Bool := decide (c = 10 ∨ c = 13 ∨ c = 12 ∨ c = 9 ∨ c = 32)
def digB (c : Int) : Bool := decide (48 ≤ c ∧ c ≤ 57)
def startsB (c : Int) : Bool := decide ((97 ≤ c ∧ c ≤ 122) ∨ (65 ≤ c ∧ c ≤ 90) ∨ c = 95 ∨ 128 ≤ c)
def contsB (c : Int) : Bool := decide ((97 ≤ c ∧ c ≤ 122) ∨ (65 ≤ c ∧ c ≤ 90) ∨ c = 95 ∨ 128 ≤ c ∨ (48 ≤ c ∧ c ≤ 57) ∨ c = 45)
def unpB (c : Int) : Bool := decide ((0 ≤ c ∧ c ≤ 8) ∨ c = 11 ∨ (14 ≤ c ∧ c ≤ 31) ∨ c = 127)
def escB (a b : Int) : Bool := decide (a = 92) && !isNl b
def idB (a b c : Int) : Bool := if a = 45 then startsB b || decide (b = 45) || escB b c else startsB a || escB a b
def cntB (a b c : Int) : Bool := if a = 43 ∨ a = 45 then digB b || (decide (b = 46) && digB c) else digB a || (decide (a = 46) && digB b)

def hexN : Nat → Int → List Nat → Int × List Nat
  | 0, v, r => (v, r)
  | _ + 1, v, [] => (v, [])
  | k + 1, v, c :: t => if 0 ≤ hexv (c : Int) then hexN k (v * 16 + hexv (c : Int)) t else (v, c :: t)
def fixv (v : Int) : Nat := if v = 0 ∨ 1114111 < v ∨ (55296 ≤ v ∧ v < 57344) then 65533 else v.toNat
/-- what ends a line is taken -/
def nlF (r : List Nat) : List Nat := if pk r 0 = 13 ∧ pk r 1 = 10 then r.drop 2 else r.drop 1
/-- behind a backslash: the code point meant, what is left, whether it is left open -/
def escF (r : List Nat) : Nat × List Nat × Bool :=
  if hexv (pk r 0) < 0 then
    match r with
    | [] => (65533, [], true)
    | c :: t => (c, t, false)
  else
    if isNl (pk (hexN 6 0 r).2 0) then (fixv (hexN 6 0 r).1, nlF (hexN 6 0 r).2, true)
    else if isSp (pk (hexN 6 0 r).2 0) then (fixv (hexN 6 0 r).1, (hexN 6 0 r).2.tail, false)
    else (fixv (hexN 6 0 r).1, (hexN 6 0 r).2, false)

theorem hexN_len (k : Nat) : ∀ (v : Int) (r : List Nat), (hexN k v r).2.length ≤ r.length := by
  induction k with
  | zero => intro v r; simp [hexN]
  | succ k ih =>
    intro v r
    cases r with
    | nil => simp [hexN]
    | cons c t =>
      simp only [hexN]
      split
      · have := ih (v * 16 + hexv c) t
        simp only [List.length_cons]; omega
      · simp
theorem nlF_len (r : List Nat) : (nlF r).length ≤ r.length := by unfold nlF; split <;> simp <;> omega
theorem escF_len (r : List Nat) : (escF r).2.1.length ≤ r.length := by
  have h := hexN_len 6 0 r
  have h2 := nlF_len (hexN 6 0 r).2
  unfold escF
  split
  · cases r <;> simp
  · split
    · simp only []; omega
    · split
      · simp only [List.length_tail]; omega
      · exact h

theorem pk_cons (c : Nat) (t : List Nat) : pk (c :: t) 0 = (c : Int) := rfl
theorem pk_cons1 (c : Nat) (t : List Nat) (k : Nat) : pk (c :: t) (k + 1) = pk t k := by simp [pk]
theorem pk_nil (k : Nat) : pk [] k = -1 := by simp [pk]
theorem pk_ge (r : List Nat) (k : Nat) : -1 ≤ pk r k := by unfold pk; split <;> omega
theorem pk_ne_nil {r : List Nat} (h : pk r 0 ≠ -1) : r ≠ [] := by intro e; subst e; exact h rfl
theorem pk_end {r : List Nat} (h : pk r 0 = -1) : r = [] := by
  cases r with
  | nil => rfl
  | cons c t => rw [pk_cons] at h; omega
theorem contsB_ne_nil {r : List Nat} (h : contsB (pk r 0) = true) : r ≠ [] := by
  intro e; subst e; simp [pk, contsB] at h
theorem escB_ne_nil {r : List Nat} (h : escB (pk r 0) (pk r 1) = true) : r ≠ [] := by
  intro e; subst e; simp [pk, escB] at h
theorem tail_lt {r : List Nat} (h : r ≠ []) : r.tail.length < r.length := by
  cases r with
  | nil => exact absurd rfl h
  | cons c t => simp

/-- a name: what it means, what is left, whether it is left open -/
def nameF (r : List Nat) : List Nat × List Nat × Bool :=
  if h : contsB (pk r 0) = true then
    ((pk r 0).toNat :: (nameF r.tail).1, (nameF r.tail).2.1, (nameF r.tail).2.2)
  else if h2 : escB (pk r 0) (pk r 1) = true then
    ((escF r.tail).1 :: (nameF (escF r.tail).2.1).1, (nameF (escF r.tail).2.1).2.1, (escF r.tail).2.2 || (nameF (escF r.tail).2.1).2.2)
  else ([], r, false)
termination_by r.length
decreasing_by
  all_goals first
    | exact tail_lt (contsB_ne_nil h)
    | (have h1 := tail_lt (escB_ne_nil h2); have h3 := escF_len r.tail; omega)

theorem nameF_conts {r : List Nat} (h : contsB (pk r 0) = true) : nameF r = ((pk r 0).toNat :: (nameF r.tail).1, (nameF r.tail).2.1, (nameF r.tail).2.2) := by
  rw [nameF, dif_pos h]
theorem nameF_esc {r : List Nat} (h : contsB (pk r 0) = false) (h2 : escB (pk r 0) (pk r 1) = true) :
    nameF r = ((escF r.tail).1 :: (nameF (escF r.tail).2.1).1, (nameF (escF r.tail).2.1).2.1, (escF r.tail).2.2 || (nameF (escF r.tail).2.1).2.2) := by
  rw [nameF, dif_neg (by simp [h]), dif_pos h2]
theorem nameF_done {r : List Nat} (h : contsB (pk r 0) = false) (h2 : escB (pk r 0) (pk r 1) = false) : nameF r = ([], r, false) := by
  rw [nameF, dif_neg (by simp [h]), dif_neg (by simp [h2])]
theorem nameF_nil : nameF [] = ([], [], false) := nameF_done (by decide) (by decide)
theorem nameF_len (n : Nat) : ∀ r : List Nat, r.length ≤ n → (nameF r).2.1.length ≤ r.length := by
  induction n with
  | zero => intro r h; have : r = [] := List.eq_nil_of_length_eq_zero (by omega); subst this; rw [nameF_nil]; simp
  | succ n ih =>
    intro r h
    by_cases h1 : contsB (pk r 0) = true
    · have ht := tail_lt (contsB_ne_nil h1)
      rw [nameF_conts h1]
      have := ih r.tail (by omega)
      simp only []; omega
    · have h1 : contsB (pk r 0) = false := by simpa using h1
      by_cases h2 : escB (pk r 0) (pk r 1) = true
      · have ht := tail_lt (escB_ne_nil h2)
        have he := escF_len r.tail
        rw [nameF_esc h1 h2]
        have := ih (escF r.tail).2.1 (by omega)
        simp only []; omega
      · rw [nameF_done h1 (by simpa using h2)]; simp

/-- behind a quote: the kind (36: a string), what it means, what is left, whether it is left open -/
def quotF (q : Nat) (r : List Nat) : Nat × List Nat × List Nat × Bool :=
  if h0 : r = [] then (36, [], [], true)
  else if pk r 0 = q then (36, [], r.tail, false)
  else if isNl (pk r 0) = true then (2, [], r, false)
  else if pk r 0 = 92 ∧ pk r 1 = -1 then quotF q r.tail
  else if pk r 0 = 92 ∧ isNl (pk r 1) = true then quotF q (nlF r.tail)
  else if pk r 0 = 92 then
    ((quotF q (escF r.tail).2.1).1, (if (quotF q (escF r.tail).2.1).1 = 36 then [(escF r.tail).1] else []) ++ (quotF q (escF r.tail).2.1).2.1, (quotF q (escF r.tail).2.1).2.2.1, (escF r.tail).2.2 || (quotF q (escF r.tail).2.1).2.2.2)
  else ((quotF q r.tail).1, (if (quotF q r.tail).1 = 36 then [(pk r 0).toNat] else []) ++ (quotF q r.tail).2.1, (quotF q r.tail).2.2.1, (quotF q r.tail).2.2.2)
termination_by r.length
decreasing_by
  all_goals first
    | exact tail_lt h0
    | (have h1 := tail_lt h0; have h3 := escF_len r.tail; have h4 := nlF_len r.tail; omega)

theorem quotF_nil (q : Nat) : quotF q [] = (36, [], [], true) := by rw [quotF, dif_pos rfl]
theorem quotF_end {q : Nat} {r : List Nat} (h0 : r ≠ []) (h : pk r 0 = q) : quotF q r = (36, [], r.tail, false) := by rw [quotF, dif_neg h0, if_pos h]
theorem quotF_nl {q : Nat} {r : List Nat} (h0 : r ≠ []) (h : pk r 0 ≠ q) (h1 : isNl (pk r 0) = true) : quotF q r = (2, [], r, false) := by rw [quotF, dif_neg h0, if_neg h, if_pos h1]
theorem quotF_last {q : Nat} {r : List Nat} (h0 : r ≠ []) (h : pk r 0 ≠ q) (h1 : isNl (pk r 0) = false) (h2 : pk r 0 = 92) (h3 : pk r 1 = -1) : quotF q r = quotF q r.tail := by
  rw [quotF, dif_neg h0, if_neg h, if_neg (by simp [h1]), if_pos ⟨h2, h3⟩]
theorem quotF_cont {q : Nat} {r : List Nat} (h0 : r ≠ []) (h : pk r 0 ≠ q) (h1 : isNl (pk r 0) = false) (h2 : pk r 0 = 92) (h3 : pk r 1 ≠ -1) (h4 : isNl (pk r 1) = true) : quotF q r = quotF q (nlF r.tail) := by
  rw [quotF, dif_neg h0, if_neg h, if_neg (by simp [h1]), if_neg (fun e => h3 e.2), if_pos ⟨h2, h4⟩]
theorem quotF_esc {q : Nat} {r : List Nat} (h0 : r ≠ []) (h : pk r 0 ≠ q) (h1 : isNl (pk r 0) = false) (h2 : pk r 0 = 92) (h3 : pk r 1 ≠ -1) (h4 : isNl (pk r 1) = false) :
    quotF q r = ((quotF q (escF r.tail).2.1).1, (if (quotF q (escF r.tail).2.1).1 = 36 then [(escF r.tail).1] else []) ++ (quotF q (escF r.tail).2.1).2.1, (quotF q (escF r.tail).2.1).2.2.1, (escF r.tail).2.2 || (quotF q (escF r.tail).2.1).2.2.2) := by
  rw [quotF, dif_neg h0, if_neg h, if_neg (by simp [h1]), if_neg (fun e => h3 e.2), if_neg (by simp [h4]), if_pos h2]
theorem quotF_char {q : Nat} {r : List Nat} (h0 : r ≠ []) (h : pk r 0 ≠ q) (h1 : isNl (pk r 0) = false) (h2 : pk r 0 ≠ 92) :
    quotF q r = ((quotF q r.tail).1, (if (quotF q r.tail).1 = 36 then [(pk r 0).toNat] else []) ++ (quotF q r.tail).2.1, (quotF q r.tail).2.2.1, (quotF q r.tail).2.2.2) := by
  rw [quotF, dif_neg h0, if_neg h, if_neg (by simp [h1]), if_neg (fun e => h2 e.1), if_neg (fun e => h2 e.1), if_neg h2]

def spF (r : List Nat) : List Nat := r.dropWhile fun c => isSp (c : Int)
def dgF (r : List Nat) : List Nat := r.dropWhile fun c => digB (c : Int)
theorem dropWhile_len {p : Nat → Bool} (r : List Nat) : (r.dropWhile p).length ≤ r.length := by
  induction r with
  | nil => simp
  | cons c t ih => simp only [List.dropWhile_cons]; split <;> simp <;> omega
theorem spF_yes {r : List Nat} (h : isSp (pk r 0) = true) : spF r = spF r.tail := by
  cases r with
  | nil => rfl
  | cons c t => rw [pk_cons] at h; simp [spF, List.dropWhile_cons, h]
theorem spF_no {r : List Nat} (h : isSp (pk r 0) = false) : spF r = r := by
  cases r with
  | nil => rfl
  | cons c t => rw [pk_cons] at h; simp [spF, List.dropWhile_cons, h]
theorem dgF_yes {r : List Nat} (h : digB (pk r 0) = true) : dgF r = dgF r.tail := by
  cases r with
  | nil => rfl
  | cons c t => rw [pk_cons] at h; simp [dgF, List.dropWhile_cons, h]
theorem dgF_no {r : List Nat} (h : digB (pk r 0) = false) : dgF r = r := by
  cases r with
  | nil => rfl
  | cons c t => rw [pk_cons] at h; simp [dgF, List.dropWhile_cons, h]
theorem isSp_ne_nil {r : List Nat} (h : isSp (pk r 0) = true) : r ≠ [] := by intro e; subst e; simp [pk, isSp] at h
theorem digB_ne_nil {r : List Nat} (h : digB (pk r 0) = true) : r ≠ [] := by intro e; subst e; simp [pk, digB] at h
theorem spF_head (r : List Nat) : isSp (pk (spF r) 0) = false := by
  induction r with
  | nil => decide
  | cons c t ih =>
    by_cases h : isSp (c : Int) = true
    · rw [spF_yes (by rw [pk_cons]; exact h)]; exact ih
    · rw [spF_no (by rw [pk_cons]; simpa using h), pk_cons]; simpa using h

/-- what is left of a bad address -/
def badF (r : List Nat) : List Nat × Bool :=
  if h0 : r = [] then ([], true)
  else if pk r 0 = 41 then (r.tail, false)
  else if escB (pk r 0) (pk r 1) = true then ((badF (escF r.tail).2.1).1, (escF r.tail).2.2 || (badF (escF r.tail).2.1).2)
  else badF r.tail
termination_by r.length
decreasing_by
  all_goals first
    | exact tail_lt h0
    | (have h1 := tail_lt h0; have h3 := escF_len r.tail; omega)
theorem badF_nil : badF [] = ([], true) := by rw [badF, dif_pos rfl]
theorem badF_end {r : List Nat} (h0 : r ≠ []) (h : pk r 0 = 41) : badF r = (r.tail, false) := by rw [badF, dif_neg h0, if_pos h]
theorem badF_esc {r : List Nat} (h0 : r ≠ []) (h : pk r 0 ≠ 41) (h1 : escB (pk r 0) (pk r 1) = true) : badF r = ((badF (escF r.tail).2.1).1, (escF r.tail).2.2 || (badF (escF r.tail).2.1).2) := by rw [badF, dif_neg h0, if_neg h, if_pos h1]
theorem badF_char {r : List Nat} (h0 : r ≠ []) (h : pk r 0 ≠ 41) (h1 : escB (pk r 0) (pk r 1) = false) : badF r = badF r.tail := by rw [badF, dif_neg h0, if_neg h, if_neg (by simp [h1])]
theorem badF_len (n : Nat) : ∀ r : List Nat, r.length ≤ n → (badF r).1.length ≤ r.length := by
  induction n with
  | zero => intro r h; have : r = [] := List.eq_nil_of_length_eq_zero (by omega); subst this; rw [badF_nil]; simp
  | succ n ih =>
    intro r h
    by_cases h0 : r = []
    · subst h0; rw [badF_nil]; simp
    · have ht := tail_lt h0
      by_cases h1 : pk r 0 = 41
      · rw [badF_end h0 h1]; simp only []; omega
      · by_cases h2 : escB (pk r 0) (pk r 1) = true
        · rw [badF_esc h0 h1 h2]
          have he := escF_len r.tail
          have := ih (escF r.tail).2.1 (by omega)
          simp only []; omega
        · rw [badF_char h0 h1 (by simpa using h2)]
          have := ih r.tail (by omega)
          omega

/-- a sign that no address without quotes holds -/
def urlBad (a b : Int) : Bool := decide (a = 34 ∨ a = 39 ∨ a = 40) || unpB a || (decide (a = 92) && !escB a b)
/-- an address without quotes, behind its whitespace: kind (37, or 3: a bad one), what it means, what is left, whether it is left open -/
def urlF (r : List Nat) : Nat × List Nat × List Nat × Bool :=
  if h0 : r = [] then (37, [], [], true)
  else if pk r 0 = 41 then (37, [], r.tail, false)
  else if isSp (pk r 0) = true then
    if pk (spF r) 0 ≠ 41 ∧ pk (spF r) 0 ≠ -1 then (3, [], (badF (spF r)).1, (badF (spF r)).2) else urlF (spF r.tail)
  else if urlBad (pk r 0) (pk r 1) = true then (3, [], (badF r).1, (badF r).2)
  else if pk r 0 = 92 then
    ((urlF (escF r.tail).2.1).1, (if (urlF (escF r.tail).2.1).1 = 37 then [(escF r.tail).1] else []) ++ (urlF (escF r.tail).2.1).2.1, (urlF (escF r.tail).2.1).2.2.1, (escF r.tail).2.2 || (urlF (escF r.tail).2.1).2.2.2)
  else ((urlF r.tail).1, (if (urlF r.tail).1 = 37 then [(pk r 0).toNat] else []) ++ (urlF r.tail).2.1, (urlF r.tail).2.2.1, (urlF r.tail).2.2.2)
termination_by r.length
decreasing_by
  all_goals first
    | exact tail_lt h0
    | (have h1 := tail_lt h0; have h3 := escF_len r.tail; omega)
    | (have h1 := tail_lt h0; have h3 := dropWhile_len (p := fun c => isSp (c : Int)) r.tail; show (spF r.tail).length < r.length; unfold spF; omega)
theorem urlF_nil : urlF [] = (37, [], [], true) := by rw [urlF, dif_pos rfl]
theorem urlF_end {r : List Nat} (h0 : r ≠ []) (h : pk r 0 = 41) : urlF r = (37, [], r.tail, false) := by rw [urlF, dif_neg h0, if_pos h]
theorem urlF_spbad {r : List Nat} (h0 : r ≠ []) (h : pk r 0 ≠ 41) (h1 : isSp (pk r 0) = true) (h2 : pk (spF r) 0 ≠ 41 ∧ pk (spF r) 0 ≠ -1) : urlF r = (3, [], (badF (spF r)).1, (badF (spF r)).2) := by
  rw [urlF, dif_neg h0, if_neg h, if_pos h1, if_pos h2]
theorem urlF_sp {r : List Nat} (h0 : r ≠ []) (h : pk r 0 ≠ 41) (h1 : isSp (pk r 0) = true) (h2 : ¬ (pk (spF r) 0 ≠ 41 ∧ pk (spF r) 0 ≠ -1)) : urlF r = urlF (spF r) := by
  rw [urlF, dif_neg h0, if_neg h, if_pos h1, if_neg h2, ← spF_yes h1]
theorem urlF_bad {r : List Nat} (h0 : r ≠ []) (h : pk r 0 ≠ 41) (h1 : isSp (pk r 0) = false) (h2 : urlBad (pk r 0) (pk r 1) = true) : urlF r = (3, [], (badF r).1, (badF r).2) := by
  rw [urlF, dif_neg h0, if_neg h, if_neg (by simp [h1]), if_pos h2]
theorem urlF_esc {r : List Nat} (h0 : r ≠ []) (h : pk r 0 ≠ 41) (h1 : isSp (pk r 0) = false) (h2 : urlBad (pk r 0) (pk r 1) = false) (h3 : pk r 0 = 92) :
    urlF r = ((urlF (escF r.tail).2.1).1, (if (urlF (escF r.tail).2.1).1 = 37 then [(escF r.tail).1] else []) ++ (urlF (escF r.tail).2.1).2.1, (urlF (escF r.tail).2.1).2.2.1, (escF r.tail).2.2 || (urlF (escF r.tail).2.1).2.2.2) := by
  rw [urlF, dif_neg h0, if_neg h, if_neg (by simp [h1]), if_neg (by simp [h2]), if_pos h3]
theorem urlF_char {r : List Nat} (h0 : r ≠ []) (h : pk r 0 ≠ 41) (h1 : isSp (pk r 0) = false) (h2 : urlBad (pk r 0) (pk r 1) = false) (h3 : pk r 0 ≠ 92) :
    urlF r = ((urlF r.tail).1, (if (urlF r.tail).1 = 37 then [(pk r 0).toNat] else []) ++ (urlF r.tail).2.1, (urlF r.tail).2.2.1, (urlF r.tail).2.2.2) := by
  rw [urlF, dif_neg h0, if_neg h, if_neg (by simp [h1]), if_neg (by simp [h2]), if_neg h3]
theorem urlF_len (n : Nat) : ∀ r : List Nat, r.length ≤ n → (urlF r).2.2.1.length ≤ r.length := by
  induction n with
  | zero => intro r h; have : r = [] := List.eq_nil_of_length_eq_zero (by omega); subst this; rw [urlF_nil]; simp
  | succ n ih =>
    intro r h
    by_cases h0 : r = []
    · subst h0; rw [urlF_nil]; simp
    have ht := tail_lt h0
    by_cases h1 : pk r 0 = 41
    · rw [urlF_end h0 h1]; simp only []; omega
    by_cases h2 : isSp (pk r 0) = true
    · have hs := dropWhile_len (p := fun c => isSp (c : Int)) r.tail
      have hs' : (spF r).length ≤ r.tail.length := by rw [spF_yes h2]; exact hs
      by_cases h3 : pk (spF r) 0 ≠ 41 ∧ pk (spF r) 0 ≠ -1
      · rw [urlF_spbad h0 h1 h2 h3]
        have := badF_len _ (spF r) (Nat.le_refl _)
        simp only []; omega
      · rw [urlF_sp h0 h1 h2 h3]
        have := ih (spF r) (by omega)
        omega
    have h2 : isSp (pk r 0) = false := by simpa using h2
    by_cases h3 : urlBad (pk r 0) (pk r 1) = true
    · rw [urlF_bad h0 h1 h2 h3]
      exact badF_len _ r (Nat.le_refl _)
    have h3 : urlBad (pk r 0) (pk r 1) = false := by simpa using h3
    by_cases h4 : pk r 0 = 92
    · rw [urlF_esc h0 h1 h2 h3 h4]
      have he := escF_len r.tail
      have := ih (escF r.tail).2.1 (by omega)
      simp only []; omega
    · rw [urlF_char h0 h1 h2 h3 h4]
      have := ih r.tail (by omega)
      simp only []; omega
theorem quotF_len (q : Nat) (n : Nat) : ∀ r : List Nat, r.length ≤ n → (quotF q r).2.2.1.length ≤ r.length := by
  induction n with
  | zero => intro r h; have : r = [] := List.eq_nil_of_length_eq_zero (by omega); subst this; rw [quotF_nil]; simp
  | succ n ih =>
    intro r h
    by_cases h0 : r = []
    · subst h0; rw [quotF_nil]; simp
    have ht := tail_lt h0
    by_cases h1 : pk r 0 = q
    · rw [quotF_end h0 h1]; simp only []; omega
    by_cases h2 : isNl (pk r 0) = true
    · rw [quotF_nl h0 h1 h2]; simp
    have h2 : isNl (pk r 0) = false := by simpa using h2
    by_cases h3 : pk r 0 = 92
    · by_cases h4 : pk r 1 = -1
      · rw [quotF_last h0 h1 h2 h3 h4]
        have := ih r.tail (by omega)
        omega
      by_cases h5 : isNl (pk r 1) = true
      · rw [quotF_cont h0 h1 h2 h3 h4 h5]
        have hn := nlF_len r.tail
        have := ih (nlF r.tail) (by omega)
        omega
      · rw [quotF_esc h0 h1 h2 h3 h4 (by simpa using h5)]
        have he := escF_len r.tail
        have := ih (escF r.tail).2.1 (by omega)
        simp only []; omega
    · rw [quotF_char h0 h1 h2 h3]
      have := ih r.tail (by omega)
      simp only []; omega

/-- a comment's end -/
def skipC : List Nat → Option (List Nat)
  | [] => none
  | c :: t => if c = 42 ∧ pk t 0 = 47 then some t.tail else skipC t
theorem skipC_len : ∀ (r : List Nat) (t : List Nat), skipC r = some t → t.length < r.length
  | [], t, h => by simp [skipC] at h
  | c :: r, t, h => by
    simp only [skipC] at h
    split at h
    · injection h with h; subst h; simp; omega
    · have := skipC_len r t h; simp; omega
/-- comments: what is left, how many, whether it is left open -/
def comF (r : List Nat) : List Nat × Nat × Bool :=
  if pk r 0 = 47 ∧ pk r 1 = 42 then
    match h : skipC (r.drop 2) with
    | none => ([], 1, true)
    | some t => ((comF t).1, (comF t).2.1 + 1, (comF t).2.2)
  else (r, 0, false)
termination_by r.length
decreasing_by
  have := skipC_len _ _ h
  simp at this; omega
theorem comF_no {r : List Nat} (h : ¬ (pk r 0 = 47 ∧ pk r 1 = 42)) : comF r = (r, 0, false) := by rw [comF, if_neg h]
theorem comF_open {r : List Nat} (h : pk r 0 = 47 ∧ pk r 1 = 42) (h1 : skipC (r.drop 2) = none) : comF r = ([], 1, true) := by
  rw [comF, if_pos h]; split
  · rfl
  · rename_i t ht; simp [h1] at ht
theorem comF_more {r t : List Nat} (h : pk r 0 = 47 ∧ pk r 1 = 42) (h1 : skipC (r.drop 2) = some t) : comF r = ((comF t).1, (comF t).2.1 + 1, (comF t).2.2) := by
  rw [comF, if_pos h]; split
  · rename_i ht; simp [h1] at ht
  · rename_i t' ht; rw [h1] at ht; injection ht with ht; subst ht; rfl
theorem comF_len (n : Nat) : ∀ r : List Nat, r.length ≤ n → (comF r).1.length ≤ r.length := by
  induction n with
  | zero => intro r h; have : r = [] := List.eq_nil_of_length_eq_zero (by omega); subst this; rw [comF_no (by simp [pk])]; simp
  | succ n ih =>
    intro r h
    by_cases h1 : pk r 0 = 47 ∧ pk r 1 = 42
    · cases h2 : skipC (r.drop 2) with
      | none => rw [comF_open h1 h2]; simp
      | some t =>
        rw [comF_more h1 h2]
        have := skipC_len _ _ h2
        simp at this
        have := ih t (by omega)
        simp only []; omega
    · rw [comF_no h1]; simp

/-- the place of what is left in a text of so many bytes -/
def posN (T : Nat) (r : List Nat) : Nat := T - (encs r).length

structure Tok where
  kind : Nat
  start : Nat := 0
  stop : Nat := 0
  unit : Int := 0
  id : Bool := false
  text : List UInt8 := []
/-- what a reader's step gives: a token, what is left, whether it is left open -/
structure Res where
  tok : Tok
  rest : List Nat
  opn : Bool := false

def expo (r : List Nat) : Bool := decide (pk r 0 = 101 ∨ pk r 0 = 69) && (digB (pk r 1) || (decide (pk r 1 = 43 ∨ pk r 1 = 45) && digB (pk r 2)))
/-- a number: what stands behind its sign; behind its digits; behind its point and more digits; behind its power -/
def num1 (r : List Nat) : List Nat := if pk r 0 = 43 ∨ pk r 0 = 45 then r.tail else r
def num2 (r : List Nat) : List Nat := dgF (num1 r)
def num3 (r : List Nat) : List Nat := if pk (num2 r) 0 = 46 ∧ digB (pk (num2 r) 1) = true then dgF (num2 r).tail else num2 r
def num4 (r : List Nat) : List Nat := if expo (num3 r) = true then dgF ((num3 r).drop 2) else num3 r
def numO (r : List Nat) : Bool := decide (pk (num2 r) 0 = 46) && !digB (pk (num2 r) 1)
def numericF (T : Nat) (r : List Nat) : Res :=
  if idB (pk (num4 r) 0) (pk (num4 r) 1) (pk (num4 r) 2) = true then
    { tok := { kind := 26, unit := (posN T (num4 r) : Int) - (posN T r : Int) }, rest := (nameF (num4 r)).2.1, opn := numO r || (nameF (num4 r)).2.2 }
  else if pk (num4 r) 0 = 37 then { tok := { kind := 34 }, rest := (num4 r).tail, opn := numO r }
  else { tok := { kind := 30 }, rest := num4 r, opn := numO r }

def lowU (x : UInt8) (a : Nat) : Bool := decide (x.toNat = a ∨ x.toNat + 32 = a)
/-- is a name url, in letters of any size -/
def isUrlB (l : List UInt8) : Bool := decide (l.length = 3) && lowU (l.getD 0 0) 117 && lowU (l.getD 1 0) 114 && lowU (l.getD 2 0) 108
def trimB (l : List UInt8) : Bool := l.isEmpty || (!isSp ((l.getD 0 0).toNat : Int) && !isSp ((l.getD (l.length - 1) 0).toNat : Int))
def namedF (T : Nat) (r : List Nat) : Res :=
  if pk (nameF r).2.1 0 ≠ 40 then { tok := { kind := 29, text := encs (nameF r).1 }, rest := (nameF r).2.1, opn := (nameF r).2.2 }
  else if isUrlB (encs (nameF r).1) = true ∧ pk (spF (nameF r).2.1.tail) 0 ≠ 34 ∧ pk (spF (nameF r).2.1.tail) 0 ≠ 39 then
    { tok := { kind := (urlF (spF (nameF r).2.1.tail)).1, text := encs (urlF (spF (nameF r).2.1.tail)).2.1 }, rest := (urlF (spF (nameF r).2.1.tail)).2.2.1,
      opn := (nameF r).2.2 || (urlF (spF (nameF r).2.1.tail)).2.2.2 || !decide ((posN T (nameF r).2.1 : Int) - posN T r = 3) || !trimB (encs (urlF (spF (nameF r).2.1.tail)).2.1) }
  else { tok := { kind := 27, text := encs (nameF r).1 }, rest := (nameF r).2.1.tail, opn := (nameF r).2.2 }

def signK (c : Int) : Nat :=
  if c = 123 then 31 else if c = 125 then 6 else if c = 91 then 32 else if c = 93 then 7 else if c = 40 then 33 else if c = 41 then 8 else if c = 58 then 9 else if c = 59 then 35
  else if c = 44 then 10 else if c = 38 then 12 else if c = 42 then 13 else if c = 124 then 14 else if c = 94 then 15 else if c = 36 then 16 else if c = 46 then 17 else if c = 61 then 18
  else if c = 33 then 19 else if c = 62 then 20 else if c = 60 then 21 else if c = 45 then 22 else if c = 43 then 23 else if c = 47 then 24 else if c = 126 then 25 else 11

def nextF (T : Nat) (r : List Nat) : Res :=
  if pk r 0 = -1 then { tok := { kind := 0 }, rest := r }
  else if isSp (pk r 0) = true then { tok := { kind := 38 }, rest := spF r }
  else if pk r 0 = 34 ∨ pk r 0 = 39 then
    { tok := { kind := (quotF (pk r 0).toNat r.tail).1, text := encs (quotF (pk r 0).toNat r.tail).2.1 }, rest := (quotF (pk r 0).toNat r.tail).2.2.1, opn := (quotF (pk r 0).toNat r.tail).2.2.2 }
  else if pk r 0 = 35 ∧ (contsB (pk r 1) = true ∨ escB (pk r 1) (pk r 2) = true) then
    { tok := { kind := 28, id := idB (pk r 1) (pk r 2) (pk r 3), text := encs (nameF r.tail).1 }, rest := (nameF r.tail).2.1, opn := (nameF r.tail).2.2 }
  else if cntB (pk r 0) (pk r 1) (pk r 2) = true then numericF T r
  else if pk r 0 = 45 ∧ pk r 1 = 45 ∧ pk r 2 = 62 then { tok := { kind := 4 }, rest := r.drop 3 }
  else if idB (pk r 0) (pk r 1) (pk r 2) = true then namedF T r
  else if pk r 0 = 60 ∧ pk r 1 = 33 ∧ pk r 2 = 45 ∧ pk r 3 = 45 then { tok := { kind := 5 }, rest := r.drop 4 }
  else if pk r 0 = 64 ∧ idB (pk r 1) (pk r 2) (pk r 3) = true then
    { tok := { kind := 1, text := encs (nameF r.tail).1 }, rest := (nameF r.tail).2.1, opn := (nameF r.tail).2.2 }
  else { tok := { kind := signK (pk r 0) }, rest := r.tail }

/-- the tokens of a text of T bytes, its comments, and whether it is left open -/
def toksG (T : Nat) : Nat → List Nat → List Tok × Nat × Bool
  | 0, _ => ([], 0, false)
  | f + 1, r =>
    if (nextF T (comF r).1).tok.kind = 0 then ([], (comF r).2.1, (comF r).2.2 || (nextF T (comF r).1).opn)
    else ({ (nextF T (comF r).1).tok with start := posN T (comF r).1, stop := posN T (nextF T (comF r).1).rest } :: (toksG T f (nextF T (comF r).1).rest).1,
      (comF r).2.1 + (toksG T f (nextF T (comF r).1).rest).2.1, (comF r).2.2 || (nextF T (comF r).1).opn || (toksG T f (nextF T (comF r).1).rest).2.2)
def toksF (r : List Nat) : List Tok × Nat × Bool := toksG (encs r).length (r.length + 1) r

end Go.Proofs.YtmomkkakjkkakaaFmt.Pl
