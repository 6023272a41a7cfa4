/-
  What printQuotedWithQuote's walk wants: plain facts; appending a string's bytes within a region that draws.
-/
import Derived.Test.YtmomkkakjkkakaaFmtPil
import Derived.Test.YtmomkkakjkkakaaFmtPwe
import Derived.Lib.AppendStr
import Derived.RegionTactic
set_option linter.unusedVariables false
set_option linter.unusedSimpArgs false
set_option maxRecDepth 100000
namespace Go.Proofs.YtmomkkakjkkakaaFmt
open Go.RowKit Go.Lib

/-- AT A STEP OF A REGION THAT DRAWS ITS ORDER: a string's bytes are appended to a slice that owns its row. -/
theorem step_append_str {P : Program} {w : World} {ops : Array Oper} {o : Oper} {a : Act} {K : Act → World → Prop} {Q : Exit → Act → World → Prop} {E : Prop} (hgd : o.guard = none) (sl x : Operand) (t u : TypeId)
    (ho : o.op = .call { callee := .builtin .append, args := #[sl, x], argTypes := #[t, u] })
    (base : Nat) (e : TypeId) (i : TypeInfo) (ht : P.underlying t = some (.slice e)) (hu : P.underlying u = some .string) (hi : P.info? e = some i) (hz : i.zero = some (.int .u8 0))
    (hsize : i.size = 1) (hby : i.bytes = 1)
    (v : Value) (n : Nat) (xs : List Value) (hs : a.eval sl = v) (hown : w.ownsRow base e 1 v n xs) (s : ByteArray) (hx : a.eval x = .string s) (m : Nat) (hm : s.size = m) (hm0 : 0 < m)
    (h63 : n + m ≤ maxLen) (hbytes : n + m ≤ 140737488355328) (hbase : base ≤ w.heap.size)
    (h : ∀ g cap w', w'.ownsRow base e 1 (.slice (some ⟨g, 0, none⟩) (n + m) cap) (n + m) (xs ++ strCells s) → w.grownBy w' v.ownBlock → K (a.put o.dst (.slice (some ⟨g, 0, none⟩) (n + m) cap)) w') :
    if Region.wanted o (yielded ops a.tmps) = true then Oper.wp P o a w K Q else E := by
  have hw : Region.wanted o (yielded ops a.tmps) = true := by simp [Region.wanted, hgd]
  rw [if_pos hw]
  subst hm
  obtain ⟨v', w', hr, h2, h3, _⟩ := run_append_own_string (P := P) w base t u o.type e i ht hu hi hz hsize hby v n xs hown s h63 hbytes hbase
  obtain ⟨g, cap, rfl, _, _⟩ := h2.form (by omega)
  unfold Oper.wp execOp
  simp only [ho, resolve, invoke, builtin, Sem.run_bind, Sem.run_pure, Result.andThen_ok, List.map_toArray, List.map_cons, List.map_nil, hs, hx, hr]
  exact h g cap w' h2 h3

theorem strCells_bytes (s : ByteArray) : strCells s = Lib.byteCells s.data.toList := rfl

/-! ## one sign of the text -/
structure QRound (x : ByteArray) (a : List Nat) (c : Nat) (t : List Nat) : Prop where
  lt : (Pl.encs a).length < x.size
  str : Str (x.extract (Pl.encs a).length x.size) (c :: t)
  ok : Pl.Ok c
  okt : ∀ y ∈ t, Pl.Ok y
  le : c ≤ 1114111
  sz : (x.extract (Pl.encs a).length x.size).size ≤ x.size
  fits : (Pl.encs a).length + (Pl.enc c).length ≤ x.size
  nxt : (Pl.encs (a ++ [c])).length = (Pl.encs a).length + (Pl.enc c).length
  all : x.size = (Pl.encs a).length + (Pl.enc c).length + (Pl.encs t).length
theorem q_round {x : ByteArray} {a : List Nat} {c : Nat} {t : List Nat} (hx : Str x (a ++ c :: t)) (hok : ∀ d ∈ a ++ c :: t, Pl.Ok d) : QRound x a c t := by
  have hsz := hx.size
  rw [Pl.encs_append, Pl.encs_cons, List.length_append, List.length_append] at hsz
  have hp := enc_len_pos c
  have hco : Pl.Ok c := hok c (by simp)
  have hc1 : c ≤ 1114111 := by have := hco.1; unfold Pl.Sc at this; omega
  refine ⟨by omega, hx.suf, hco, fun y hy => hok y (by simp [hy]), hc1, ?_, by omega, ?_, by omega⟩
  · rw [ByteArray.size_extract]; omega
  · rw [Pl.encs_append, List.length_append, Pl.encs_cons, Pl.encs_nil, List.append_nil]
theorem q_end {x : ByteArray} {a : List Nat} (hx : Str x (a ++ [])) : (Pl.encs a).length = x.size := by
  rw [hx.size, List.append_nil]
/-- the bytes of a piece of the text -/
theorem q_mid {x : ByteArray} {a1 a2 t : List Nat} (hx : Str x (a1 ++ a2 ++ t)) : (x.extract (Pl.encs a1).length (Pl.encs (a1 ++ a2)).length).data.toList = Pl.encs a2 ∧
    (x.extract (Pl.encs a1).length (Pl.encs (a1 ++ a2)).length).size = (Pl.encs a2).length := by
  have h1 : (x.extract (Pl.encs a1).length (Pl.encs (a1 ++ a2)).length).data.toList = Pl.encs a2 := by
    rw [ByteArray.data_extract, Array.toList_extract, hx.txt, Pl.encs_append, Pl.encs_append, List.length_append, List.extract_eq_take_drop, List.append_assoc, List.drop_left, Nat.add_sub_cancel_left, List.take_left]
  refine ⟨h1, ?_⟩
  rw [← h1, Array.length_toList]; rfl
theorem mid_empty {a1 a2 : List Nat} : (Pl.encs a1).length < (Pl.encs (a1 ++ a2)).length ↔ a2 ≠ [] := by
  rw [Pl.encs_append, List.length_append]
  cases a2 with
  | nil => simp [Pl.encs]
  | cons c t => have := enc_len_pos c; rw [Pl.encs_cons, List.length_append]; simp; omega

/-! ## what is still to be printed -/
theorem qi_head (ascii : Bool) (q : Nat) (p : Option Nat) (t : List Nat) : (Pl.qItems ascii q p t).head?.map (·.1) = t.head? := by cases t <;> rfl
theorem qi_step {ascii : Bool} {q c : Nat} {p : Option Nat} {t : List Nat} : Pl.outF (Pl.qItems ascii q p (c :: t)) false = Pl.pweF c (Pl.qE ascii q p c t) t.head? false ++ Pl.outF (Pl.qItems ascii q (some c) t) false := by
  rw [Pl.qItems, Pl.outF, qi_head]
theorem qi_raw {ascii : Bool} {q c : Nat} {p : Option Nat} {t : List Nat} {X D : List UInt8} {a2 : List Nat} (h : X = D ++ Pl.encs a2 ++ Pl.encs (Pl.outF (Pl.qItems ascii q p (c :: t)) false)) (hE : Pl.qE ascii q p c t = 0) :
    X = D ++ Pl.encs (a2 ++ [c]) ++ Pl.encs (Pl.outF (Pl.qItems ascii q (some c) t) false) := by
  rw [h, qi_step, hE, Pl.pweF_raw (by simp [Pl.escK]), Pl.encs_append, Pl.encs_append]
  simp [List.append_assoc]
theorem qi_esc {ascii : Bool} {q c E : Nat} {p : Option Nat} {t : List Nat} {X D : List UInt8} {a2 : List Nat} (h : X = D ++ Pl.encs a2 ++ Pl.encs (Pl.outF (Pl.qItems ascii q p (c :: t)) false)) (hE : Pl.qE ascii q p c t = E) :
    X = (D ++ Pl.encs a2 ++ Pl.encs (Pl.pweF c E t.head? false)) ++ Pl.encs [] ++ Pl.encs (Pl.outF (Pl.qItems ascii q (some c) t) false) := by
  rw [h, qi_step, hE, Pl.encs_append, Pl.encs_nil]
  simp [List.append_assoc]
theorem last_snoc (a : List Nat) (c : Nat) : (a ++ [c]).getLast? = some c := by simp
theorem q_good {ascii : Bool} {q c E : Nat} {p : Option Nat} {t : List Nat} (h : Pl.qE ascii q p c t = E) (hc : Pl.Ok c) : Pl.Good (c, E) := by
  subst h
  exact ⟨hc, Pl.qE_le _ _ _ _ _, fun hn => Pl.qE_nl _ _ _ _ _ hn⟩
/-- how much has been printed, and how much there may be still -/
theorem q_grow0 {D d : List UInt8} {x : ByteArray} {c : Nat} {a2 t : List Nat} (h : D.length + (Pl.encs a2).length + 8 * (Pl.encs (c :: t)).length ≤ d.length + 8 * x.size + 1) :
    D.length + (Pl.encs (a2 ++ [c])).length + 8 * (Pl.encs t).length ≤ d.length + 8 * x.size + 1 := by
  rw [Pl.encs_cons, List.length_append] at h
  rw [Pl.encs_append, List.length_append, Pl.encs_cons, Pl.encs_nil, List.append_nil]
  omega
theorem q_grow1 {D d : List UInt8} {x : ByteArray} {c E : Nat} {a2 t : List Nat} (h : D.length + (Pl.encs a2).length + 8 * (Pl.encs (c :: t)).length ≤ d.length + 8 * x.size + 1) (hc : Pl.Ok c) (hE : E ≤ 2) :
    (D ++ Pl.encs a2 ++ Pl.encs (Pl.pweF c E t.head? false)).length + (Pl.encs []).length + 8 * (Pl.encs t).length ≤ d.length + 8 * x.size + 1 := by
  have h1 := Pl.pwe_len (nx := t.head?) (may := false) hc hE
  have h2 := enc_len_pos c
  rw [Pl.encs_cons, List.length_append] at h
  rw [List.length_append, List.length_append, Pl.encs_nil, List.length_nil]
  omega
theorem q_small {D d : List UInt8} {x : ByteArray} {n m : Nat} (h : D.length + m + 8 * n ≤ d.length + 8 * x.size + 1) (hd : d.length ≤ 1099511627776) (hs : x.size ≤ 1099511627776) : D.length + m ≤ 35184372088832 := by omega

theorem qw_ways0 {ascii : Bool} {p : Option Nat} {c : Nat} {t : List Nat} (hc : Pl.Ok c) : ((c : Int) == 0) = false ∧ (((((c : Int) == 13) = true) ∧ Pl.qE ascii 0 p c t = 2) ∨ ((((c : Int) == 13) = false) ∧ (((((c : Int) == 10) = true) ∧ Pl.qE ascii 0 p c t = 2) ∨ ((((c : Int) == 10) = false) ∧ (((((c : Int) == 12) = true) ∧ Pl.qE ascii 0 p c t = 2) ∨ ((((c : Int) == 12) = false) ∧ (((((c : Int) == 92) = true) ∧ Pl.qE ascii 0 p c t = 1) ∨ ((((c : Int) == 92) = false) ∧ (((((c : Int) == 40) = true) ∧ Pl.qE ascii 0 p c t = 1) ∨ ((((c : Int) == 40) = false) ∧ (((((c : Int) == 41) = true) ∧ Pl.qE ascii 0 p c t = 1) ∨ ((((c : Int) == 41) = false) ∧ (((((c : Int) == 32) = true) ∧ Pl.qE ascii 0 p c t = 1) ∨ ((((c : Int) == 32) = false) ∧ (((((c : Int) == 9) = true) ∧ Pl.qE ascii 0 p c t = 1) ∨ ((((c : Int) == 9) = false) ∧ (((((c : Int) == 34) = true) ∧ Pl.qE ascii 0 p c t = 1) ∨ ((((c : Int) == 34) = false) ∧ (((((c : Int) == 39) = true) ∧ Pl.qE ascii 0 p c t = 1) ∨ ((((c : Int) == 39) = false) ∧ (((((c : Int) == 47) = true) ∧ Pl.qE ascii 0 p c t = if p = some 60 ∧ Pl.styleB (Pl.encs t) = true then 1 else 0) ∨ ((((c : Int) == 47) = false) ∧ (((ascii && decide (128 ≤ (c : Int))) = true ∧ Pl.qE ascii 0 p c t = 2) ∨ ((ascii && decide (128 ≤ (c : Int))) = false ∧ (((((c : Int) == 65279) = true) ∧ Pl.qE ascii 0 p c t = 2) ∨ ((((c : Int) == 65279) = false) ∧ Pl.qE ascii 0 p c t = 0)))))))))))))))))))))))))) := by
  have h0 : c ≠ 0 := hc.2
  refine ⟨by simp; omega, ?_⟩
  by_cases h13 : c = 13
  · subst h13; exact .inl ⟨rfl, by simp [Pl.qE]⟩
  refine .inr ⟨by simp; omega, ?_⟩
  by_cases h10 : c = 10
  · subst h10; exact .inl ⟨rfl, by simp [Pl.qE]⟩
  refine .inr ⟨by simp; omega, ?_⟩
  by_cases h12 : c = 12
  · subst h12; exact .inl ⟨rfl, by simp [Pl.qE]⟩
  refine .inr ⟨by simp; omega, ?_⟩
  by_cases h92 : c = 92
  · subst h92; exact .inl ⟨rfl, by simp [Pl.qE]⟩
  refine .inr ⟨by simp; omega, ?_⟩
  by_cases h40 : c = 40
  · subst h40; exact .inl ⟨rfl, by simp [Pl.qE]⟩
  refine .inr ⟨by simp; omega, ?_⟩
  by_cases h41 : c = 41
  · subst h41; exact .inl ⟨rfl, by simp [Pl.qE]⟩
  refine .inr ⟨by simp; omega, ?_⟩
  by_cases h32 : c = 32
  · subst h32; exact .inl ⟨rfl, by simp [Pl.qE]⟩
  refine .inr ⟨by simp; omega, ?_⟩
  by_cases h9 : c = 9
  · subst h9; exact .inl ⟨rfl, by simp [Pl.qE]⟩
  refine .inr ⟨by simp; omega, ?_⟩
  by_cases h34 : c = 34
  · subst h34; exact .inl ⟨rfl, by simp [Pl.qE]⟩
  refine .inr ⟨by simp; omega, ?_⟩
  by_cases h39 : c = 39
  · subst h39; exact .inl ⟨rfl, by simp [Pl.qE]⟩
  refine .inr ⟨by simp; omega, ?_⟩
  by_cases h47 : c = 47
  · subst h47; exact .inl ⟨rfl, by simp [Pl.qE]⟩
  refine .inr ⟨by simp; omega, ?_⟩
  have hE : Pl.qE ascii 0 p c t = if (ascii = true ∧ 128 ≤ c) ∨ c = 65279 then 2 else 0 := by
    unfold Pl.qE
    rw [if_neg (by omega), if_neg (by omega), if_neg (by omega), if_neg (by omega)]
  rw [hE]
  by_cases hA : ascii = true ∧ 128 ≤ c
  · exact .inl ⟨by rw [hA.1, Bool.true_and]; simp; omega, by rw [if_pos (.inl hA)]⟩
  refine .inr ⟨by cases ascii <;> simp at hA ⊢; omega, ?_⟩
  by_cases hf : c = 65279
  · exact .inl ⟨by simp [hf], by rw [if_pos (.inr hf)]⟩
  · exact .inr ⟨by simp; omega, by rw [if_neg (fun h => h.elim hA hf)]⟩
theorem qw_ways34 {ascii : Bool} {p : Option Nat} {c : Nat} {t : List Nat} (hc : Pl.Ok c) : ((c : Int) == 0) = false ∧ (((((c : Int) == 13) = true) ∧ Pl.qE ascii 34 p c t = 2) ∨ ((((c : Int) == 13) = false) ∧ (((((c : Int) == 10) = true) ∧ Pl.qE ascii 34 p c t = 2) ∨ ((((c : Int) == 10) = false) ∧ (((((c : Int) == 12) = true) ∧ Pl.qE ascii 34 p c t = 2) ∨ ((((c : Int) == 12) = false) ∧ (((((c : Int) == 92) = true) ∧ Pl.qE ascii 34 p c t = 1) ∨ ((((c : Int) == 92) = false) ∧ (((((c : Int) == 34) = true) ∧ Pl.qE ascii 34 p c t = 1) ∨ ((((c : Int) == 34) = false) ∧ (((((c : Int) == 40) = true) ∧ Pl.qE ascii 34 p c t = 0) ∨ ((((c : Int) == 40) = false) ∧ (((((c : Int) == 41) = true) ∧ Pl.qE ascii 34 p c t = 0) ∨ ((((c : Int) == 41) = false) ∧ (((((c : Int) == 32) = true) ∧ Pl.qE ascii 34 p c t = 0) ∨ ((((c : Int) == 32) = false) ∧ (((((c : Int) == 9) = true) ∧ Pl.qE ascii 34 p c t = 0) ∨ ((((c : Int) == 9) = false) ∧ (((((c : Int) == 39) = true) ∧ Pl.qE ascii 34 p c t = 0) ∨ ((((c : Int) == 39) = false) ∧ (((((c : Int) == 47) = true) ∧ Pl.qE ascii 34 p c t = if p = some 60 ∧ Pl.styleB (Pl.encs t) = true then 1 else 0) ∨ ((((c : Int) == 47) = false) ∧ (((ascii && decide (128 ≤ (c : Int))) = true ∧ Pl.qE ascii 34 p c t = 2) ∨ ((ascii && decide (128 ≤ (c : Int))) = false ∧ (((((c : Int) == 65279) = true) ∧ Pl.qE ascii 34 p c t = 2) ∨ ((((c : Int) == 65279) = false) ∧ Pl.qE ascii 34 p c t = 0)))))))))))))))))))))))))) := by
  have h0 : c ≠ 0 := hc.2
  refine ⟨by simp; omega, ?_⟩
  by_cases h13 : c = 13
  · subst h13; exact .inl ⟨rfl, by simp [Pl.qE]⟩
  refine .inr ⟨by simp; omega, ?_⟩
  by_cases h10 : c = 10
  · subst h10; exact .inl ⟨rfl, by simp [Pl.qE]⟩
  refine .inr ⟨by simp; omega, ?_⟩
  by_cases h12 : c = 12
  · subst h12; exact .inl ⟨rfl, by simp [Pl.qE]⟩
  refine .inr ⟨by simp; omega, ?_⟩
  by_cases h92 : c = 92
  · subst h92; exact .inl ⟨rfl, by simp [Pl.qE]⟩
  refine .inr ⟨by simp; omega, ?_⟩
  by_cases h34 : c = 34
  · subst h34; exact .inl ⟨rfl, by simp [Pl.qE]⟩
  refine .inr ⟨by simp; omega, ?_⟩
  by_cases h40 : c = 40
  · subst h40; exact .inl ⟨rfl, by simp [Pl.qE]⟩
  refine .inr ⟨by simp; omega, ?_⟩
  by_cases h41 : c = 41
  · subst h41; exact .inl ⟨rfl, by simp [Pl.qE]⟩
  refine .inr ⟨by simp; omega, ?_⟩
  by_cases h32 : c = 32
  · subst h32; exact .inl ⟨rfl, by simp [Pl.qE]⟩
  refine .inr ⟨by simp; omega, ?_⟩
  by_cases h9 : c = 9
  · subst h9; exact .inl ⟨rfl, by simp [Pl.qE]⟩
  refine .inr ⟨by simp; omega, ?_⟩
  by_cases h39 : c = 39
  · subst h39; exact .inl ⟨rfl, by simp [Pl.qE]⟩
  refine .inr ⟨by simp; omega, ?_⟩
  by_cases h47 : c = 47
  · subst h47; exact .inl ⟨rfl, by simp [Pl.qE]⟩
  refine .inr ⟨by simp; omega, ?_⟩
  have hE : Pl.qE ascii 34 p c t = if (ascii = true ∧ 128 ≤ c) ∨ c = 65279 then 2 else 0 := by
    unfold Pl.qE
    rw [if_neg (by omega), if_neg (by omega), if_neg (by omega), if_neg (by omega)]
  rw [hE]
  by_cases hA : ascii = true ∧ 128 ≤ c
  · exact .inl ⟨by rw [hA.1, Bool.true_and]; simp; omega, by rw [if_pos (.inl hA)]⟩
  refine .inr ⟨by cases ascii <;> simp at hA ⊢; omega, ?_⟩
  by_cases hf : c = 65279
  · exact .inl ⟨by simp [hf], by rw [if_pos (.inr hf)]⟩
  · exact .inr ⟨by simp; omega, by rw [if_neg (fun h => h.elim hA hf)]⟩
theorem qw_ways39 {ascii : Bool} {p : Option Nat} {c : Nat} {t : List Nat} (hc : Pl.Ok c) : ((c : Int) == 0) = false ∧ (((((c : Int) == 13) = true) ∧ Pl.qE ascii 39 p c t = 2) ∨ ((((c : Int) == 13) = false) ∧ (((((c : Int) == 10) = true) ∧ Pl.qE ascii 39 p c t = 2) ∨ ((((c : Int) == 10) = false) ∧ (((((c : Int) == 12) = true) ∧ Pl.qE ascii 39 p c t = 2) ∨ ((((c : Int) == 12) = false) ∧ (((((c : Int) == 92) = true) ∧ Pl.qE ascii 39 p c t = 1) ∨ ((((c : Int) == 92) = false) ∧ (((((c : Int) == 39) = true) ∧ Pl.qE ascii 39 p c t = 1) ∨ ((((c : Int) == 39) = false) ∧ (((((c : Int) == 40) = true) ∧ Pl.qE ascii 39 p c t = 0) ∨ ((((c : Int) == 40) = false) ∧ (((((c : Int) == 41) = true) ∧ Pl.qE ascii 39 p c t = 0) ∨ ((((c : Int) == 41) = false) ∧ (((((c : Int) == 32) = true) ∧ Pl.qE ascii 39 p c t = 0) ∨ ((((c : Int) == 32) = false) ∧ (((((c : Int) == 9) = true) ∧ Pl.qE ascii 39 p c t = 0) ∨ ((((c : Int) == 9) = false) ∧ (((((c : Int) == 34) = true) ∧ Pl.qE ascii 39 p c t = 0) ∨ ((((c : Int) == 34) = false) ∧ (((((c : Int) == 47) = true) ∧ Pl.qE ascii 39 p c t = if p = some 60 ∧ Pl.styleB (Pl.encs t) = true then 1 else 0) ∨ ((((c : Int) == 47) = false) ∧ (((ascii && decide (128 ≤ (c : Int))) = true ∧ Pl.qE ascii 39 p c t = 2) ∨ ((ascii && decide (128 ≤ (c : Int))) = false ∧ (((((c : Int) == 65279) = true) ∧ Pl.qE ascii 39 p c t = 2) ∨ ((((c : Int) == 65279) = false) ∧ Pl.qE ascii 39 p c t = 0)))))))))))))))))))))))))) := by
  have h0 : c ≠ 0 := hc.2
  refine ⟨by simp; omega, ?_⟩
  by_cases h13 : c = 13
  · subst h13; exact .inl ⟨rfl, by simp [Pl.qE]⟩
  refine .inr ⟨by simp; omega, ?_⟩
  by_cases h10 : c = 10
  · subst h10; exact .inl ⟨rfl, by simp [Pl.qE]⟩
  refine .inr ⟨by simp; omega, ?_⟩
  by_cases h12 : c = 12
  · subst h12; exact .inl ⟨rfl, by simp [Pl.qE]⟩
  refine .inr ⟨by simp; omega, ?_⟩
  by_cases h92 : c = 92
  · subst h92; exact .inl ⟨rfl, by simp [Pl.qE]⟩
  refine .inr ⟨by simp; omega, ?_⟩
  by_cases h39 : c = 39
  · subst h39; exact .inl ⟨rfl, by simp [Pl.qE]⟩
  refine .inr ⟨by simp; omega, ?_⟩
  by_cases h40 : c = 40
  · subst h40; exact .inl ⟨rfl, by simp [Pl.qE]⟩
  refine .inr ⟨by simp; omega, ?_⟩
  by_cases h41 : c = 41
  · subst h41; exact .inl ⟨rfl, by simp [Pl.qE]⟩
  refine .inr ⟨by simp; omega, ?_⟩
  by_cases h32 : c = 32
  · subst h32; exact .inl ⟨rfl, by simp [Pl.qE]⟩
  refine .inr ⟨by simp; omega, ?_⟩
  by_cases h9 : c = 9
  · subst h9; exact .inl ⟨rfl, by simp [Pl.qE]⟩
  refine .inr ⟨by simp; omega, ?_⟩
  by_cases h34 : c = 34
  · subst h34; exact .inl ⟨rfl, by simp [Pl.qE]⟩
  refine .inr ⟨by simp; omega, ?_⟩
  by_cases h47 : c = 47
  · subst h47; exact .inl ⟨rfl, by simp [Pl.qE]⟩
  refine .inr ⟨by simp; omega, ?_⟩
  have hE : Pl.qE ascii 39 p c t = if (ascii = true ∧ 128 ≤ c) ∨ c = 65279 then 2 else 0 := by
    unfold Pl.qE
    rw [if_neg (by omega), if_neg (by omega), if_neg (by omega), if_neg (by omega)]
  rw [hE]
  by_cases hA : ascii = true ∧ 128 ≤ c
  · exact .inl ⟨by rw [hA.1, Bool.true_and]; simp; omega, by rw [if_pos (.inl hA)]⟩
  refine .inr ⟨by cases ascii <;> simp at hA ⊢; omega, ?_⟩
  by_cases hf : c = 65279
  · exact .inl ⟨by simp [hf], by rw [if_pos (.inr hf)]⟩
  · exact .inr ⟨by simp; omega, by rw [if_neg (fun h => h.elim hA hf)]⟩
theorem enc_last {e : Nat} (h : Pl.Sc e) : ∃ b, (Pl.enc e).getLast? = some b ∧ (b.toNat = 60 ↔ e = 60) := by
  unfold Pl.Sc at h
  rcases Nat.lt_or_ge e 128 with g1 | g1
  · rw [enc1 g1]; exact ⟨_, rfl, by simp; omega⟩
  rcases Nat.lt_or_ge e 2048 with g2 | g2
  · rw [enc2 g1 g2]; exact ⟨_, rfl, by simp; omega⟩
  rcases Nat.lt_or_ge e 65536 with g3 | g3
  · rw [enc3 (by omega)]; exact ⟨_, rfl, by simp; omega⟩
  · rw [enc4 g3 (by omega)]; exact ⟨_, rfl, by simp; omega⟩
/-- the byte ahead of a place -/
theorem last_byte {x : ByteArray} {a u : List Nat} {J : Nat} (hx : Str x (a ++ u)) (hok : ∀ c ∈ a, Pl.Ok c) (hJ : (Pl.encs a).length = J + 1) : bt x J = 60 ↔ a.getLast? = some 60 := by
  rcases List.eq_nil_or_concat a with rfl | ⟨a', e, rfl⟩
  · simp [Pl.encs] at hJ
  · simp only [List.concat_eq_append] at hok hJ hx ⊢
    have he : Pl.Sc e := (hok e (by simp)).1
    obtain ⟨b, hb, hb2⟩ := enc_last he
    have hl := enc_len_pos e
    rw [Pl.encs_append, Pl.encs_cons, Pl.encs_nil, List.append_nil, List.length_append] at hJ
    have hbt : bt x J = b.toNat := by
      unfold bt
      rw [hx.txt, Pl.encs_append, Pl.encs_append, Pl.encs_cons, Pl.encs_nil, List.append_nil, List.append_assoc, List.getD_eq_getElem?_getD, List.getElem?_append_right (by omega), List.getElem?_append_left (by omega)]
      have : J - (Pl.encs a').length = (Pl.enc e).length - 1 := by omega
      rw [this, ← List.getLast?_eq_getElem?, hb]; rfl
    rw [hbt, hb2, List.getLast?_append]
    simp
/-- the five bytes behind a stroke -/
theorem style_take {x : ByteArray} {I : Nat} {t : List Nat} (hd : x.data.toList.drop (I + 1) = Pl.encs t) (h5 : 5 ≤ (Pl.encs t).length) : (x.extract (I + 1) (I + 6)).size = 5 ∧ Pl.styleB (x.extract (I + 1) (I + 6)).data.toList = Pl.styleB (Pl.encs t) := by
  have e : (x.extract (I + 1) (I + 6)).data.toList = (Pl.encs t).take 5 := by
    rw [ByteArray.data_extract, Array.toList_extract, List.extract_eq_take_drop, hd]
    congr 1; omega
  have hl : ((Pl.encs t).take 5).length = 5 := by rw [List.length_take]; omega
  refine ⟨?_, ?_⟩
  · have : (x.extract (I + 1) (I + 6)).data.toList.length = 5 := by rw [e, hl]
    rw [← this, Array.length_toList]; rfl
  · rw [e]
    unfold Pl.styleB
    rw [hl]
    have g : ∀ k, k < 5 → ((Pl.encs t).take 5).getD k 0 = (Pl.encs t).getD k 0 := fun k hk => by
      rw [List.getD_eq_getElem?_getD, List.getD_eq_getElem?_getD, List.getElem?_take, if_pos hk]
    rw [g 0 (by omega), g 1 (by omega), g 2 (by omega), g 3 (by omega), g 4 (by omega)]
    simp [h5]
theorem style_short {t : List Nat} (h : ¬ 5 ≤ (Pl.encs t).length) : Pl.styleB (Pl.encs t) = false := by
  unfold Pl.styleB
  simp [h]
end Go.Proofs.YtmomkkakjkkakaaFmt
