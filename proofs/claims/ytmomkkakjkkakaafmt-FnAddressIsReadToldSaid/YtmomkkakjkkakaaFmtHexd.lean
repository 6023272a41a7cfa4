/-
  PLAIN: code points written as escapes of so many digits and a blank: the package's decoder gives them back.
-/
import Derived.Test.YtmomkkakjkkakaaFmtDes
set_option linter.unusedVariables false
set_option linter.unusedSimpArgs false
set_option maxRecDepth 100000
namespace Go.Proofs.YtmomkkakjkkakaaFmt
open Go.RowKit

def hexd (n : Nat) : Nat := if n < 10 then 48 + n else 87 + n
theorem hexd_v {n : Nat} (h : n < 16) : Pl.hexv (hexd n) = n := by
  unfold hexd
  split <;> (unfold Pl.hexv; (repeat' split) <;> omega)
theorem hexd_lt {n : Nat} (h : n < 16) : 48 ≤ hexd n ∧ hexd n < 128 := by unfold hexd; split <;> omega
/-- what digits say -/
def hval : List Nat → Int
  | [] => 0
  | c :: t => Pl.hexv c * 16 ^ t.length + hval t
def HexD (d : List Nat) : Prop := ∀ c ∈ d, ∃ n, n < 16 ∧ c = hexd n
theorem hval_nn : ∀ {d : List Nat}, HexD d → 0 ≤ hval d
  | [], _ => Int.le_refl _
  | c :: t, h => by
    obtain ⟨n, hn, e⟩ := h c (by simp)
    have ih := hval_nn (d := t) (fun x hx => h x (by simp [hx]))
    unfold hval
    rw [e, hexd_v hn]
    have : (0 : Int) ≤ (n : Int) * 16 ^ t.length := Int.mul_nonneg (by omega) (Int.pow_nonneg (by omega))
    omega
theorem hexN_digits : ∀ (d : List Nat) (n : Nat) (a : Int) (t : List Nat), HexD d → d.length ≤ n → Pl.hexv (Pl.pk t 0) < 0 → Pl.hexN n a (d ++ t) = (a * 16 ^ d.length + hval d, t)
  | [], n, a, t, _, _, ht => by
    have e : a * 16 ^ ([] : List Nat).length + hval [] = a := by simp [hval]
    rw [e, List.nil_append]
    cases n with
    | zero => rfl
    | succ n =>
      cases t with
      | nil => rfl
      | cons c t => rw [Pl.hexN, if_neg (by have : Pl.pk (c :: t) 0 = (c : Int) := rfl; rw [this] at ht; omega)]
  | c :: d, n, a, t, h, hl, ht => by
    obtain ⟨m, hm, e⟩ := h c (by simp)
    cases n with
    | zero => simp at hl
    | succ n =>
      have hv : Pl.hexv c = m := by rw [e, hexd_v hm]
      rw [List.cons_append, Pl.hexN, if_pos (by omega), hexN_digits d n _ t (fun x hx => h x (by simp [hx])) (by simpa using hl) ht]
      refine Prod.ext ?_ rfl
      show (a * 16 + Pl.hexv c) * 16 ^ d.length + hval d = a * 16 ^ (d.length + 1) + (Pl.hexv c * 16 ^ d.length + hval d)
      rw [Int.pow_succ, Int.add_mul, Int.mul_assoc, Int.mul_comm 16, Int.add_assoc]

theorem decF_item {c : Nat} (hc : Pl.Ok c) {d : List Nat} (h : HexD d) (h0 : d ≠ []) (h6 : d.length ≤ 6) (hv : hval d = c) (t : List Nat) : Pl.decF (92 :: (d ++ 32 :: t)) = c :: Pl.decF t := by
  have ht : Pl.hexv (Pl.pk (32 :: t) 0) < 0 := by show Pl.hexv (32 : Int) < 0; decide
  have e := hexN_digits d 6 0 (32 :: t) h h6 ht
  have hx : 0 ≤ Pl.hexv (Pl.pk (92 :: (d ++ 32 :: t)) 1) := by
    cases d with
    | nil => exact absurd rfl h0
    | cons x d =>
      obtain ⟨m, hm, e⟩ := h x (by simp)
      show 0 ≤ Pl.hexv (x : Int)
      rw [e, hexd_v hm]; omega
  rw [Pl.decF_hex (by simp) rfl hx, List.tail_cons, e]
  have hf : Pl.fixv (0 * 16 ^ d.length + hval d) = c := by
    rw [hv, Int.zero_mul, Int.zero_add]
    obtain ⟨hs, hn⟩ := hc
    unfold Pl.Sc at hs
    unfold Pl.fixv
    rw [if_neg (by omega)]; omega
  rw [hf]
  have hs : Pl.isSp (Pl.pk (32 :: t) 0) = true := by show Pl.isSp (32 : Int) = true; decide
  rw [if_pos hs]; rfl
theorem hexd_ok {d : List Nat} (h : HexD d) : ∀ c ∈ d, Pl.Ok c := by
  intro c hc
  obtain ⟨n, hn, e⟩ := h c hc
  have := hexd_lt hn
  rw [← e] at this
  exact ⟨.inl (by omega), by omega⟩
theorem encs_ascii : ∀ (d : List Nat), (∀ c ∈ d, c < 128) → Pl.encs d = d.map UInt8.ofNat
  | [], _ => rfl
  | c :: d, h => by rw [Pl.encs_cons, enc1 (h c (by simp)), encs_ascii d (fun x hx => h x (by simp [hx]))]; rfl
theorem hval_lt {m : Nat} {d : List Nat} (h : HexD d) {c : Int} (e : hval d + m * 16 ^ d.length = c) (hm : 0 < m) (hc : c < 16777216) : d.length < 6 := by
  have h0 := hval_nn h
  rcases Nat.lt_or_ge d.length 6 with h1 | h1
  · exact h1
  · exfalso
    have h2 : (16 : Int) ^ 6 ≤ 16 ^ d.length := by exact_mod_cast Nat.pow_le_pow_right (by omega) h1
    have h3 : (16 : Int) ^ d.length ≤ m * 16 ^ d.length := by
      have : (1 : Int) * 16 ^ d.length ≤ m * 16 ^ d.length := Int.mul_le_mul_of_nonneg_right (by omega) (Int.pow_nonneg (by omega))
      simpa using this
    have h4 : (16 : Int) ^ 6 = 16777216 := by decide
    omega
theorem hval_step {m : Nat} {d : List Nat} {c : Int} (e : hval d + m * 16 ^ d.length = c) : hval (hexd (m % 16) :: d) + ((m / 16 : Nat) : Int) * 16 ^ (hexd (m % 16) :: d).length = c := by
  rw [← e]
  show Pl.hexv (hexd (m % 16)) * 16 ^ d.length + hval d + ((m / 16 : Nat) : Int) * 16 ^ (d.length + 1) = _
  rw [hexd_v (Nat.mod_lt _ (by omega)), Int.pow_succ]
  have : (m : Int) = ((m % 16 : Nat) : Int) + 16 * ((m / 16 : Nat) : Int) := by omega
  generalize (16 : Int) ^ d.length = p at *
  rw [this]
  grind
end Go.Proofs.YtmomkkakjkkakaaFmt
