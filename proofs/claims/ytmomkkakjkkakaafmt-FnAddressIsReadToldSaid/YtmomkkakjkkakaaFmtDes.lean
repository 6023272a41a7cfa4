/-
  WALK of decodeEscapesInToken: the code points that decF gives.
-/
import Derived.Test.YtmomkkakjkkakaaFmtDecode
import Derived.Test.YtmomkkakjkkakaaFmtRead
import Derived.Deep.LoopGhost
set_option linter.unusedVariables false
set_option linter.unusedSimpArgs false
set_option maxRecDepth 100000
namespace Go.Proofs.YtmomkkakjkkakaaFmt
open Go.RowKit

theorem enc_bytes {c : Nat} (h : Pl.Ok c) (h9 : c ≠ 92) : ∀ x ∈ Pl.enc c, x ≠ 92 ∧ x ≠ 0 := by
  obtain ⟨hs, h0⟩ := h
  unfold Pl.Sc at hs
  intro x hx
  have key : ∀ n : Nat, n < 256 → n ≠ 92 → n ≠ 0 → (UInt8.ofNat n ≠ 92 ∧ UInt8.ofNat n ≠ 0) := by
    intro n hn h1 h2
    constructor <;> intro e <;> have e := congrArg UInt8.toNat e <;> simp at e <;> omega
  rcases Nat.lt_or_ge c 128 with g1 | g1
  · rw [enc1 g1, List.mem_singleton] at hx; subst hx; exact key c (by omega) h9 h0
  rcases Nat.lt_or_ge c 2048 with g2 | g2
  · rw [enc2 g1 g2] at hx
    simp only [List.mem_cons, List.mem_nil_iff, or_false] at hx
    rcases hx with rfl | rfl <;> apply key <;> omega
  rcases Nat.lt_or_ge c 65536 with g3 | g3
  · rw [enc3 (by omega)] at hx
    simp only [List.mem_cons, List.mem_nil_iff, or_false] at hx
    rcases hx with rfl | rfl | rfl <;> apply key <;> omega
  · rw [enc4 g3 (by omega)] at hx
    simp only [List.mem_cons, List.mem_nil_iff, or_false] at hx
    rcases hx with rfl | rfl | rfl | rfl <;> apply key <;> omega

/-- the first backslash among the bytes stands at a code point -/
theorem first_back : ∀ (r : List Nat) (j : Nat), (∀ c ∈ r, Pl.Ok c) → j < (Pl.encs r).length → (∀ x, x < j → (Pl.encs r).getD x 0 ≠ 92) → ((Pl.encs r).getD j 0 = 92 ∨ (Pl.encs r).getD j 0 = 0) →
    ∃ a t, r = a ++ 92 :: t ∧ (Pl.encs a).length = j ∧ ∀ c ∈ a, c ≠ 92
  | [], j, _, h, _, _ => by simp [Pl.encs] at h
  | c :: r, j, hok, h, hb, hj => by
    by_cases h9 : c = 92
    · subst h9
      have e : Pl.enc 92 = [92] := enc1 (by omega)
      cases j with
      | zero => exact ⟨[], r, rfl, rfl, by simp⟩
      | succ j =>
        have := hb 0 (by omega)
        rw [Pl.encs_cons, e] at this
        exact absurd rfl this
    · have hby := enc_bytes (hok c (by simp)) h9
      have hge : (Pl.enc c).length ≤ j := by
        rcases Nat.lt_or_ge j (Pl.enc c).length with hlt | hge
        · exfalso
          rw [Pl.encs_cons, List.getD_eq_getElem?_getD, List.getElem?_append_left hlt, List.getElem?_eq_getElem hlt] at hj
          have := hby _ (List.getElem_mem hlt)
          rcases hj with hj | hj
          · exact this.1 hj
          · exact this.2 hj
        · exact hge
      have hshift : ∀ x, (Pl.encs (c :: r)).getD ((Pl.enc c).length + x) 0 = (Pl.encs r).getD x 0 := by
        intro x
        rw [Pl.encs_cons, List.getD_eq_getElem?_getD, List.getD_eq_getElem?_getD, List.getElem?_append_right (by omega)]
        congr 2; omega
      obtain ⟨i, rfl⟩ : ∃ i, j = (Pl.enc c).length + i := ⟨j - (Pl.enc c).length, by omega⟩
      rw [hshift] at hj
      rw [Pl.encs_cons, List.length_append] at h
      obtain ⟨a, t, e1, e2, e3⟩ := first_back r i (fun x hx => hok x (by simp [hx])) (by omega) (fun x hx => by have := hb ((Pl.enc c).length + x) (by omega); rwa [hshift] at this) hj
      refine ⟨c :: a, t, by rw [e1]; rfl, by rw [Pl.encs_cons, List.length_append, e2], ?_⟩
      intro x hx
      rcases List.mem_cons.mp hx with rfl | hx
      · exact h9
      · exact e3 x hx
/-- no backslash: nothing turns -/
theorem no_back : ∀ (r : List Nat), (∀ c ∈ r, Pl.Ok c) → (∀ x, x < (Pl.encs r).length → (Pl.encs r).getD x 0 ≠ 92) → ∀ c ∈ r, c ≠ 92 := by
  intro r hok h c hc e
  subst e
  obtain ⟨a, t, rfl⟩ := List.append_of_mem hc
  have := h (Pl.encs a).length (by rw [Pl.encs_append, Pl.encs_cons, List.length_append, List.length_append]; have := enc_len_pos 92; omega)
  rw [Pl.encs_append, Pl.encs_cons, show Pl.enc 92 = [92] from enc1 (by omega), List.getD_eq_getElem?_getD, List.getElem?_append_right (Nat.le_refl _)] at this
  simp at this
theorem decF_pre : ∀ (a t : List Nat), (∀ c ∈ a, c ≠ 92) → Pl.decF (a ++ t) = a ++ Pl.decF t
  | [], t, _ => rfl
  | c :: a, t, h => by
    have h1 := h c (by simp)
    rw [List.cons_append, Pl.decF_char (by simp) (by rw [Pl.pk_cons]; omega), List.tail_cons, decF_pre a t (fun x hx => h x (by simp [hx])), Pl.pk_cons]
    rfl
theorem decF_same (r : List Nat) (h : ∀ c ∈ r, c ≠ 92) : Pl.decF r = r := by
  have := decF_pre r [] h
  simpa [Pl.decF_nil] using this

def hexR (c : Int) : Int := if Pl.hexv c < 0 then 0 else Pl.hexv c
theorem ret_ib {a b : Int} {p q : Bool} (h : a = b) (k : p = q) : Ending.returned (.tuple #[.int .i64 a, .bool p]) = Ending.returned (.tuple #[.int .i64 b, .bool q]) := by rw [h, k]
theorem isHex_any (c : Int) (h0 : 0 ≤ c) (h1 : c ≤ 1114111) (w : World) : Calls Tryf.prog 78 #[.int .i32 c] w fun e w' => e = .returned (.tuple #[.int .i64 (hexR c), .bool (decide (0 ≤ Pl.hexv c))]) ∧ w = w' := by
  go_enter Tryf.func78, Tryf.ntmps78
  go_wp2
  all_goals go_ret2
  all_goals refine ⟨?_, rfl⟩
  all_goals
    refine ret_ib ?_ ?_
    · unfold hexR Pl.hexv
      (repeat' split) <;> omega
    · unfold Pl.hexv
      (repeat' split) <;> simp <;> omega
theorem isWs_any (c : Int) (w : World) : Calls Tryf.prog 79 #[.int .i32 c] w fun e w' => e = .returned (.bool (Pl.isSp c)) ∧ w = w' := by
  go_enter Tryf.func79, Tryf.ntmps79
  go_wp2
  all_goals go_ret
  all_goals exact ⟨ret_bool (by simp only [beq_iff_eq, beq_eq_false_iff_ne] at *; rw [Bool.eq_iff_iff]; simp [Pl.isSp]; try omega), rfl⟩
end Go.Proofs.YtmomkkakjkkakaaFmt
