/-
  WALK of the reader's Tokens where no comment stands; and IsPlain.
-/
import Derived.Test.YtmomkkakjkkakaaFmtNext
import Derived.OwnWalk
import Derived.RegionTactic
set_option linter.unusedVariables false
set_option linter.unusedSimpArgs false
set_option maxRecDepth 100000
namespace Go.Proofs.YtmomkkakjkkakaaFmt
open Go.RowKit

theorem nameF_lt {r : List Nat} (h : Pl.contsB (Pl.pk r 0) = true ∨ Pl.escB (Pl.pk r 0) (Pl.pk r 1) = true) : (Pl.nameF r).2.1.length < r.length := by
  by_cases h1 : Pl.contsB (Pl.pk r 0) = true
  · have ht := Pl.tail_lt (Pl.contsB_ne_nil h1)
    rw [Pl.nameF_conts h1]
    have := Pl.nameF_len _ r.tail (Nat.le_refl _)
    simp only []; omega
  · have h2 : Pl.escB (Pl.pk r 0) (Pl.pk r 1) = true := h.resolve_left h1
    have ht := Pl.tail_lt (Pl.escB_ne_nil h2)
    have he := Pl.escF_len r.tail
    rw [Pl.nameF_esc (by simpa using h1) h2]
    have := Pl.nameF_len _ (Pl.escF r.tail).2.1 (Nat.le_refl _)
    simp only []; omega
theorem starts_conts {c : Int} (h : Pl.startsB c = true) : Pl.contsB c = true := by
  simp only [Pl.startsB, Pl.contsB, decide_eq_true_eq] at *; omega
theorem idB_name {r : List Nat} (h : Pl.idB (Pl.pk r 0) (Pl.pk r 1) (Pl.pk r 2) = true) : Pl.contsB (Pl.pk r 0) = true ∨ Pl.escB (Pl.pk r 0) (Pl.pk r 1) = true := by
  unfold Pl.idB at h
  split at h
  · rename_i e; left; simp [Pl.contsB, e]
  · simp only [Bool.or_eq_true] at h
    exact h.imp starts_conts id
theorem dgF_len (r : List Nat) : (Pl.dgF r).length ≤ r.length := Pl.dropWhile_len r
theorem spF_len (r : List Nat) : (Pl.spF r).length ≤ r.length := Pl.dropWhile_len r
theorem spF_lt {r : List Nat} (h : Pl.isSp (Pl.pk r 0) = true) : (Pl.spF r).length < r.length := by
  have := Pl.tail_lt (Pl.isSp_ne_nil h)
  have := spF_len r.tail
  rw [Pl.spF_yes h]; omega
theorem dgF_lt {r : List Nat} (h : Pl.digB (Pl.pk r 0) = true) : (Pl.dgF r).length < r.length := by
  have := Pl.tail_lt (Pl.digB_ne_nil h)
  have := dgF_len r.tail
  rw [Pl.dgF_yes h]; omega
theorem num4_lt {r : List Nat} (h : Pl.cntB (Pl.pk r 0) (Pl.pk r 1) (Pl.pk r 2) = true) : (Pl.num4 r).length < r.length := by
  have h34 : (Pl.num4 r).length ≤ (Pl.num3 r).length := by
    unfold Pl.num4
    split
    · have := dgF_len ((Pl.num3 r).drop 2); simp only [List.length_drop] at this; omega
    · exact Nat.le_refl _
  have h23 : (Pl.num3 r).length ≤ (Pl.num2 r).length := by
    unfold Pl.num3
    split
    · have := dgF_len (Pl.num2 r).tail; simp only [List.length_tail] at this; omega
    · exact Nat.le_refl _
  have h12 : (Pl.num2 r).length ≤ (Pl.num1 r).length := dgF_len _
  unfold Pl.cntB at h
  split at h
  · rename_i hs
    have e1 : Pl.num1 r = r.tail := by unfold Pl.num1; rw [if_pos hs]
    have : r ≠ [] := by rintro rfl; simp [Pl.pk] at hs
    have := Pl.tail_lt this
    rw [e1] at h12; omega
  · rename_i hs
    have e1 : Pl.num1 r = r := by unfold Pl.num1; rw [if_neg hs]
    simp only [Bool.or_eq_true, Bool.and_eq_true, decide_eq_true_eq] at h
    rcases h with h | ⟨h, h'⟩
    · have : (Pl.num2 r).length < r.length := by unfold Pl.num2; rw [e1]; exact dgF_lt h
      omega
    · have e2 : Pl.num2 r = r := by unfold Pl.num2; rw [e1]; exact Pl.dgF_no (by rw [h]; decide)
      have e3 : Pl.num3 r = Pl.dgF r.tail := by unfold Pl.num3; rw [e2, if_pos ⟨h, h'⟩]
      have : r ≠ [] := by rintro rfl; simp [Pl.pk] at h
      have := Pl.tail_lt this
      have := dgF_len r.tail
      rw [e3] at h34; omega
theorem nextF_lt {T : Nat} {r : List Nat} (h : (Pl.nextF T r).tok.kind ≠ 0) : (Pl.nextF T r).rest.length < r.length := by
  unfold Pl.nextF at h ⊢
  by_cases h0 : Pl.pk r 0 = -1
  · rw [if_pos h0] at h; exact absurd rfl h
  have ht := Pl.tail_lt (Pl.pk_ne_nil h0)
  rw [if_neg h0] at h ⊢
  split
  · rename_i hsp; exact spF_lt hsp
  split
  · have := Pl.quotF_len (Pl.pk r 0).toNat _ r.tail (Nat.le_refl _); simp only []; omega
  split
  · rename_i hx
    have := nameF_lt (r := r.tail) (by rw [Pl.pk_tail, Pl.pk_tail]; exact hx.2)
    simp only []; omega
  split
  · rename_i hx
    have h4 := num4_lt hx
    unfold Pl.numericF
    split
    · have := Pl.nameF_len _ (Pl.num4 r) (Nat.le_refl _); simp only []; omega
    · split
      · simp only [List.length_tail]; omega
      · exact h4
  split
  · simp only [List.length_drop]; omega
  split
  · rename_i hx
    have hn := nameF_lt (idB_name hx)
    unfold Pl.namedF
    split
    · exact hn
    · split
      · have := Pl.urlF_len _ (Pl.spF (Pl.nameF r).2.1.tail) (Nat.le_refl _)
        have := spF_len (Pl.nameF r).2.1.tail
        simp only [List.length_tail] at *; omega
      · simp only [List.length_tail]; omega
  split
  · simp only [List.length_drop]; omega
  split
  · have := Pl.nameF_len _ r.tail (Nat.le_refl _); simp only []; omega
  · exact ht

/-- no comment stands ahead of a token -/
def noC (T : Nat) : Nat → List Nat → Prop
  | 0, _ => True
  | f + 1, r => ¬ (Pl.pk r 0 = 47 ∧ Pl.pk r 1 = 42) ∧ ((Pl.nextF T r).tok.kind ≠ 0 → noC T f (Pl.nextF T r).rest)
theorem toksG_end {T f : Nat} {r : List Nat} (hc : ¬ (Pl.pk r 0 = 47 ∧ Pl.pk r 1 = 42)) (h : (Pl.nextF T r).tok.kind = 0) : Pl.toksG T (f + 1) r = ([], 0, (Pl.nextF T r).opn) := by
  simp only [Pl.toksG, Pl.comF_no hc]
  rw [if_pos h]; simp
theorem toksG_more {T f : Nat} {r : List Nat} (hc : ¬ (Pl.pk r 0 = 47 ∧ Pl.pk r 1 = 42)) (h : (Pl.nextF T r).tok.kind ≠ 0) :
    Pl.toksG T (f + 1) r = ({ (Pl.nextF T r).tok with start := Pl.posN T r, stop := Pl.posN T (Pl.nextF T r).rest } :: (Pl.toksG T f (Pl.nextF T r).rest).1, (Pl.toksG T f (Pl.nextF T r).rest).2.1, (Pl.nextF T r).opn || (Pl.toksG T f (Pl.nextF T r).rest).2.2) := by
  simp only [Pl.toksG, Pl.comF_no hc]
  rw [if_neg h]; simp

theorem comment_no {w : World} {B : Nat} {s : ByteArray} {r : List Nat} {cm : Value} {b : Bool} (h : Lx w B s r cm b) (hc : ¬ (Pl.pk r 0 = 47 ∧ Pl.pk r 1 = 42)) :
    Calls Tryf.prog 43 #[.pointer (some ⟨B, 0, none⟩)] w fun e w' => e = .returned (.tuple #[]) ∧ w = w' := by
  by_cases e1 : Pl.pk r 0 = 47
  · have k1 : (Pl.pk r 0 == 47) = true := by simp [e1]
    have k2 : (Pl.pk r 1 == 42) = false := by simp; intro e2; exact hc ⟨e1, e2⟩
    clear e1 hc
    go_enter Tryf.func43, Tryf.ntmps43
    go_wp2_with fail
    go_loopg [] 1 (fun k wr => w = wr)
    case atStart => rfl
    case round =>
      subst hrel
      go_wp2_with (go_at_call 55; refine (peek_at (by assumption) _ (by omega) (by omega)).mono ?_; rintro e w' ⟨rfl, rfl⟩)
      go_end0
      exact ⟨rfl, rfl⟩
  · have k1 : (Pl.pk r 0 == 47) = false := by simp [e1]
    clear e1 hc
    go_enter Tryf.func43, Tryf.ntmps43
    go_wp2_with fail
    go_loopg [] 1 (fun k wr => w = wr)
    case atStart => rfl
    case round =>
      subst hrel
      go_wp2_with (go_at_call 55; refine (peek_at (by assumption) _ (by omega) (by omega)).mono ?_; rintro e w' ⟨rfl, rfl⟩)
      go_end0
      exact ⟨rfl, rfl⟩

def tokCells (t : Pl.Tok) : List Value := [.int .i64 t.kind, .int .i64 t.start, .int .i64 t.stop, .int .i64 t.unit, .bool t.id, .string (S t.text)]
theorem infoTok : (Tryf.prog.info? 25).map (fun i => (i.zero, i.size, i.bytes)) = some (some (.agg #[.int .i64 0, .int .i64 0, .int .i64 0, .int .i64 0, .bool false, .string ⟨#[]⟩]), 6, 56) := by kernel_rfl

end Go.Proofs.YtmomkkakjkkakaaFmt
