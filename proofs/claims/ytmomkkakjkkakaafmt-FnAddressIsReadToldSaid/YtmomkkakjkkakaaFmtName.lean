/-
  WALK of the reader's name.
-/
import Derived.Test.YtmomkkakjkkakaaFmtEsc
set_option linter.unusedVariables false
set_option linter.unusedSimpArgs false
set_option maxRecDepth 100000
namespace Go.Proofs.YtmomkkakjkkakaaFmt
open Go.RowKit

theorem encoded_from {W w : World} {B : Nat} {s : ByteArray} {r : List Nat} {cm : Value} {b : Bool} (h : Lx w B s r cm b) (g : W.grownBy w (some B)) (c : Int) (h0 : 0 ≤ c) (hc : Pl.Sc c.toNat) :
    Calls Tryf.prog 70 #[.int .i64 c] w fun e w' => e = .returned (.string (S (Pl.enc c.toNat))) ∧ (Lx w' B s r cm b ∧ W.grownBy w' (some B)) := by
  obtain ⟨n, rfl⟩ := Int.eq_ofNat_of_zero_le h0
  refine (encoded_any n hc w).mono ?_
  rintro e w' ⟨rfl, g'⟩
  exact ⟨rfl, h.keep g' (by simp), gr_trans g (gr_none g')⟩
theorem fixv_sc (v : Int) (h : 0 ≤ v) : Pl.Sc (Pl.fixv v) := by
  unfold Pl.fixv Pl.Sc
  split <;> omega
theorem hexN_nonneg : ∀ (k : Nat) (v : Int) (r : List Nat), 0 ≤ v → 0 ≤ (Pl.hexN k v r).1
  | 0, v, r, h => by simpa [Pl.hexN] using h
  | k + 1, v, [], h => by simpa [Pl.hexN] using h
  | k + 1, v, c :: t, h => by
    simp only [Pl.hexN]
    split
    · exact hexN_nonneg k _ t (by omega)
    · exact h
theorem escF_sc {r : List Nat} (h : ∀ c ∈ r, Pl.Ok c) : Pl.Sc (Pl.escF r).1 := by
  have hn := hexN_nonneg 6 0 r (by omega)
  unfold Pl.escF
  split
  · cases r with
    | nil => decide
    | cons c t => exact (h c (by simp)).1
  · split
    · exact fixv_sc _ hn
    · split <;> exact fixv_sc _ hn
theorem pk_sc {r : List Nat} (h : ∀ c ∈ r, Pl.Ok c) (h0 : r ≠ []) : 0 ≤ Pl.pk r 0 ∧ Pl.Sc (Pl.pk r 0).toNat := by
  cases r with
  | nil => exact absurd rfl h0
  | cons c t => rw [Pl.pk_cons]; exact ⟨by omega, (h c (by simp)).1⟩
theorem encs_one (c : Nat) : Pl.encs [c] = Pl.enc c := by simp [Pl.encs]
theorem S_snoc (o : List Nat) (c : Nat) : S (Pl.encs o) ++ S (Pl.enc c) = S (Pl.encs (o ++ [c])) := by rw [S_append, Pl.encs_append, encs_one]

set_option maxHeartbeats 1000000 in
theorem name_from {W w : World} {B : Nat} {s : ByteArray} {r : List Nat} {cm : Value} {b : Bool} (h : Lx w B s r cm b) (g : W.grownBy w (some B)) :
    Calls Tryf.prog 48 #[.pointer (some ⟨B, 0, none⟩)] w fun e w' => e = .returned (.string (S (Pl.encs (Pl.nameF r).1))) ∧ (Lx w' B s (Pl.nameF r).2.1 cm (b || (Pl.nameF r).2.2) ∧ W.grownBy w' (some B)) := by
  have hr0 : r.length ≤ 1099511627776 := Nat.le_trans (encs_len_ge r) (Nat.le_trans h.le h.small)
  go_enter Tryf.func48, Tryf.ntmps48
  go_wp2_with fail
  go_loopg [3] r.length (fun k out wr => ∃ (r' o : List Nat) (b' : Bool), k = r'.length ∧ out = .string (S (Pl.encs o)) ∧ (Pl.encs o).length + 4 * r'.length ≤ 4 * r.length ∧ Lx wr B s r' cm b' ∧ W.grownBy wr (some B) ∧
    Hid (Pl.nameF r = (o ++ (Pl.nameF r').1, (Pl.nameF r').2.1, (Pl.nameF r).2.2) ∧ (b || (Pl.nameF r).2.2) = (b' || (Pl.nameF r').2.2)))
  case atStart => exact ⟨r, [], b, rfl, rfl, by simp [Pl.encs], h, g, Lib.hid ⟨by simp, rfl⟩⟩
  case round =>
    clear h g
    obtain ⟨r', o, b', rfl, rfl, hlen, h, g, HE⟩ := hrel
    have hsz : (S (Pl.encs o)).size ≤ 4398046511104 := by rw [S_size]; omega
    by_cases hc : Pl.contsB (Pl.pk r' 0) = true
    · have HC := Lib.hid hc
      have hne := Pl.contsB_ne_nil hc
      obtain ⟨hp, hsc⟩ := pk_sc h.ok hne
      have hl4 := enc_len_le (Pl.pk r' 0).toNat
      have hs4 : (S (Pl.enc (Pl.pk r' 0).toNat)).size ≤ 4 := by rw [S_size]; exact hl4
      have HT := Lib.hid (Pl.tail_lt hne)
      have HL := Lib.hid hlen
      have HL4 := Lib.hid hl4
      clear hne hlen hl4
      go_wp2_with (first
    | (go_at_call 55; refine (peek_at (by assumption) _ (by omega) (by omega)).mono ?_; rintro e w' ⟨rfl, rfl⟩)
    | (go_at_call 56; refine (take_from (by assumption) (by assumption)).mono ?_; rintro e w' ⟨rfl, h', g'⟩)
    | (go_at_call 59; refine (Continues_any _ _).mono ?_; rintro e w' ⟨rfl, rfl⟩)
    | (go_at_call 70; refine (encoded_from (by assumption) (by assumption) _ (by omega) (by assumption)).mono ?_; rintro e w' ⟨rfl, h', g'⟩))
      go_roundg r'.tail.length
      case measure => exact HT.out
      case rel => exact ⟨r'.tail, o ++ [(Pl.pk r' 0).toNat], b', rfl, by rw [S_snoc], by
          have := HT.out; have := HL.out; have := HL4.out; rw [Pl.encs_append, encs_one, List.length_append]; omega, by assumption, by assumption, Lib.hid ⟨by rw [HE.out.1, Pl.nameF_conts HC.out]; simp, by rw [HE.out.2, Pl.nameF_conts HC.out]⟩⟩
    · have hc : Pl.contsB (Pl.pk r' 0) = false := by simpa using hc
      have HC := Lib.hid hc
      by_cases he : Pl.escB (Pl.pk r' 0) (Pl.pk r' 1) = true
      · have HEs := Lib.hid he
        have hne := Pl.escB_ne_nil he
        have hsc : Pl.Sc ((Pl.escF r'.tail).1 : Int).toNat := by rw [Int.toNat_natCast]; exact escF_sc fun c hc => h.ok c (List.mem_of_mem_tail hc)
        have hl4 := enc_len_le ((Pl.escF r'.tail).1)
        have hs4 : (S (Pl.enc (Pl.escF r'.tail).1)).size ≤ 4 := by rw [S_size]; exact hl4
        have HT := Lib.hid (Pl.tail_lt hne)
        have HF := Lib.hid (Pl.escF_len r'.tail)
        have HL := Lib.hid hlen
        have HL4 := Lib.hid hl4
        clear hne hlen hl4
        go_wp2_with (first
    | (go_at_call 55; refine (peek_at (by assumption) _ (by omega) (by omega)).mono ?_; rintro e w' ⟨rfl, rfl⟩)
    | (go_at_call 56; refine (take_from (by assumption) (by assumption)).mono ?_; rintro e w' ⟨rfl, h', g'⟩)
    | (go_at_call 59; refine (Continues_any _ _).mono ?_; rintro e w' ⟨rfl, rfl⟩)
    | (go_at_call 60; refine (escapes_any _ _ _).mono ?_; rintro e w' ⟨rfl, rfl⟩)
    | (go_at_call 71; refine (escape_from (by assumption) (by assumption)).mono ?_; rintro e w' ⟨rfl, h', g'⟩)
    | (go_at_call 70; refine (encoded_from (by assumption) (by assumption) _ (by omega) (by assumption)).mono ?_; rintro e w' ⟨rfl, h', g'⟩))
        go_roundg (Pl.escF r'.tail).2.1.length
        case measure => have := HT.out; have := HF.out; omega
        case rel => exact ⟨(Pl.escF r'.tail).2.1, o ++ [(Pl.escF r'.tail).1], b' || (Pl.escF r'.tail).2.2, rfl, by first | rw [S_snoc] | (rw [Int.toNat_natCast, S_snoc]), by
          have := HT.out; have := HF.out; have := HL.out; have := HL4.out; rw [Pl.encs_append, encs_one, List.length_append]; omega, by assumption, by assumption, Lib.hid ⟨by rw [HE.out.1, Pl.nameF_esc HC.out HEs.out]; simp, by rw [HE.out.2, Pl.nameF_esc HC.out HEs.out, Bool.or_assoc]⟩⟩
      · have he : Pl.escB (Pl.pk r' 0) (Pl.pk r' 1) = false := by simpa using he
        have HN := Lib.hid (Pl.nameF_done hc he)
        go_wp2_with (first
    | (go_at_call 55; refine (peek_at (by assumption) _ (by omega) (by omega)).mono ?_; rintro e w' ⟨rfl, rfl⟩)
    | (go_at_call 56; refine (take_from (by assumption) (by assumption)).mono ?_; rintro e w' ⟨rfl, h', g'⟩)
    | (go_at_call 59; refine (Continues_any _ _).mono ?_; rintro e w' ⟨rfl, rfl⟩)
    | (go_at_call 60; refine (escapes_any _ _ _).mono ?_; rintro e w' ⟨rfl, rfl⟩))
        go_ret
        exact ⟨ret_str (by rw [HE.out.1, HN.out]; simp), Lx.cast h (by rw [HE.out.1, HN.out]) (by rw [HE.out.2, HN.out]; simp), g⟩

end Go.Proofs.YtmomkkakjkkakaaFmt
