/-
  runeAt at every text and place, by one plain function; and what it gives in a text that is UTF-8.
-/
import Derived.Test.YtmomkkakjkkakaaFmtWc
set_option linter.unusedVariables false
set_option linter.unusedSimpArgs false
set_option maxRecDepth 100000
namespace Go.Proofs.YtmomkkakjkkakaaFmt
open Go.RowKit

def runeV (s : ByteArray) (k : Nat) : Int × Int :=
  if s.size ≤ k then (-1, 0)
  else if bt s k < 128 then ((bt s k : Int), 1)
  else if bt s k < 194 then (-2, 1)
  else if bt s k < 224 then finF s k 2 128 ((bt s k : Int) % 32)
  else if bt s k < 240 then finF s k 3 2048 ((bt s k : Int) % 16)
  else if bt s k < 245 then finF s k 4 65536 ((bt s k : Int) % 8)
  else (-2, 1)

theorem runeAt_any (s : ByteArray) (k : Nat) (w : World) (hs : s.size ≤ 1099511627776) (hk : k ≤ 1099511627776) :
    Calls Tryf.prog 35 #[.string s, .int .i64 k] w fun e w' => e = .returned (.tuple #[.int .i64 (runeV s k).1, .int .i64 (runeV s k).2]) ∧ w = w' := by
  unfold runeV
  by_cases h0 : s.size ≤ k
  · rw [if_pos h0]; exact runeAt_end s k w h0 hs hk
  rw [if_neg h0]
  have hlt : k < s.size := by omega
  have hbe := bt_eq hlt
  by_cases h1 : bt s k < 128
  · rw [if_pos h1, ← hbe]; exact runeAt_ascii s k w hlt hs (by omega)
  rw [if_neg h1]
  by_cases h2 : bt s k < 194
  · rw [if_pos h2]; exact runeAt_bad s k w hlt hs (by omega) (by omega)
  rw [if_neg h2]
  by_cases h3 : bt s k < 224
  · rw [if_pos h3]; exact runeAt_two s k w hlt hs (by omega) (by omega)
  rw [if_neg h3]
  by_cases h4 : bt s k < 240
  · rw [if_pos h4]; exact runeAt_three s k w hlt hs (by omega) (by omega)
  rw [if_neg h4]
  by_cases h5 : bt s k < 245
  · rw [if_pos h5]; exact runeAt_four s k w hlt hs (by omega) (by omega)
  · rw [if_neg h5]; exact runeAt_bad s k w hlt hs (by omega) (by omega)

/-! ## the bytes of a code point -/
theorem enc1 {c : Nat} (h : c < 128) : Pl.enc c = [UInt8.ofNat c] := by
  simp [Pl.enc, Lib.encodeRune, Lib.encodeRuneZ_one (r := (c : Int)) (by omega) (by omega)]
theorem enc2 {c : Nat} (h : 128 ≤ c) (h1 : c < 2048) : Pl.enc c = [UInt8.ofNat (192 + c / 64), UInt8.ofNat (128 + c % 64)] := by
  have e1 : (192 + (c : Int) / 64).toNat = 192 + c / 64 := by omega
  have e2 : (128 + (c : Int) % 64).toNat = 128 + c % 64 := by omega
  simp only [Pl.enc, Lib.encodeRune, Lib.encodeRuneZ_two (r := (c : Int)) (by omega) (by omega), List.map_cons, List.map_nil, e1, e2, Nat.toUInt8_eq]
theorem enc3 {c : Nat} (h : (2048 ≤ c ∧ c < 55296) ∨ (57343 < c ∧ c ≤ 65535)) : Pl.enc c = [UInt8.ofNat (224 + c / 4096), UInt8.ofNat (128 + c / 64 % 64), UInt8.ofNat (128 + c % 64)] := by
  have e1 : (224 + (c : Int) / 4096).toNat = 224 + c / 4096 := by omega
  have e2 : (128 + (c : Int) / 64 % 64).toNat = 128 + c / 64 % 64 := by omega
  have e3 : (128 + (c : Int) % 64).toNat = 128 + c % 64 := by omega
  simp only [Pl.enc, Lib.encodeRune, Lib.encodeRuneZ_three (r := (c : Int)) (by omega), List.map_cons, List.map_nil, e1, e2, e3, Nat.toUInt8_eq]
theorem enc4 {c : Nat} (h : 65536 ≤ c) (h1 : c ≤ 1114111) : Pl.enc c = [UInt8.ofNat (240 + c / 262144), UInt8.ofNat (128 + c / 4096 % 64), UInt8.ofNat (128 + c / 64 % 64), UInt8.ofNat (128 + c % 64)] := by
  have e1 : (240 + (c : Int) / 262144).toNat = 240 + c / 262144 := by omega
  have e2 : (128 + (c : Int) / 4096 % 64).toNat = 128 + c / 4096 % 64 := by omega
  have e3 : (128 + (c : Int) / 64 % 64).toNat = 128 + c / 64 % 64 := by omega
  have e4 : (128 + (c : Int) % 64).toNat = 128 + c % 64 := by omega
  simp only [Pl.enc, Lib.encodeRune, Lib.encodeRuneZ_four (r := (c : Int)) (by omega) (by omega), List.map_cons, List.map_nil, e1, e2, e3, e4, Nat.toUInt8_eq]
theorem enc_len_pos (c : Nat) : 0 < (Pl.enc c).length := by
  have := (Lib.encodeRuneZ_length (c : Int)).1
  simp only [Pl.enc, Lib.encodeRune, List.length_map]; omega
theorem enc_len_le (c : Nat) : (Pl.enc c).length ≤ 4 := by
  have := Lib.encodeRuneZ_length (c : Int)
  simpa [Pl.enc, Lib.encodeRune] using this.2
theorem encs_len_ge (r : List Nat) : r.length ≤ (Pl.encs r).length := by
  induction r with
  | nil => simp
  | cons c r ih => rw [Pl.encs_cons, List.length_append]; have := enc_len_pos c; simp only [List.length_cons]; omega

/-- the bytes from a place on -/
theorem bt_drop {s : ByteArray} {k : Nat} {l : List UInt8} (h : s.data.toList.drop k = l) (j : Nat) : bt s (k + j) = (l.getD j 0).toNat := by
  subst h
  unfold bt
  rw [List.getD_eq_getElem?_getD, List.getD_eq_getElem?_getD, List.getElem?_drop]
theorem lt_of_drop {s : ByteArray} {k : Nat} {l : List UInt8} (h : s.data.toList.drop k = l) (j : Nat) : k + j < s.size ↔ j < l.length := by
  subst h
  have : s.data.toList.length = s.size := by rw [Array.length_toList]; rfl
  simp only [List.length_drop]; omega
theorem byte_nat {n : Nat} (h : n < 256) : (UInt8.ofNat n).toNat = n := by simp; omega

theorem runeV_end {s : ByteArray} {k : Nat} (h : s.data.toList.drop k = []) : runeV s k = (-1, 0) := by
  have := lt_of_drop h 0
  unfold runeV
  rw [if_pos (by simp at this; omega)]

theorem runeV_cp {s : ByteArray} {k c : Nat} {T : List UInt8} (hc : Pl.Sc c) (h : s.data.toList.drop k = Pl.enc c ++ T) : runeV s k = ((c : Int), ((Pl.enc c).length : Int)) := by
  have hpos : ¬ s.size ≤ k := by
    have := lt_of_drop h 0
    have hp := enc_len_pos c
    rw [List.length_append] at this
    omega
  unfold Pl.Sc at hc
  unfold runeV
  rw [if_neg hpos]
  have b0 := bt_drop h 0
  have b1 := bt_drop h 1
  have b2 := bt_drop h 2
  have b3 := bt_drop h 3
  have l1 := lt_of_drop h 1
  have l2 := lt_of_drop h 2
  have l3 := lt_of_drop h 3
  simp only [Nat.add_zero] at b0
  rcases Nat.lt_or_ge c 128 with g1 | g1
  · rw [enc1 g1] at b0 h
    rw [enc1 g1]
    have e0 : bt s k = c := by rw [b0]; simp; omega
    rw [if_pos (by omega), e0]; rfl
  rcases Nat.lt_or_ge c 2048 with g2 | g2
  · rw [enc2 g1 g2] at b0 b1 l1
    rw [enc2 g1 g2]
    have e0 : bt s k = 192 + c / 64 := by rw [b0]; simp; omega
    have e1 : bt s (k + 1) = 128 + c % 64 := by rw [b1]; simp; omega
    have k1 : k + 1 < s.size := l1.2 (by simp)
    rw [if_neg (by omega), if_neg (by omega), if_pos (by omega), finF_yes (by
      intro x hx1 hx2
      obtain rfl : x = 1 := by omega
      simp only [contB, decide_eq_true_eq]; omega)]
    have ea : accF s k ((bt s k : Int) % 32) 2 = c := by
      show ((bt s k : Int) % 32) * 64 + (bt s (k + 1) : Int) % 64 = c
      rw [e0, e1]; omega
    rw [ea, if_neg (by omega)]; rfl
  rcases Nat.lt_or_ge c 65536 with g3 | g3
  · rw [enc3 (by omega)] at b0 b1 b2 l1 l2
    rw [enc3 (by omega)]
    have e0 : bt s k = 224 + c / 4096 := by rw [b0]; simp; omega
    have e1 : bt s (k + 1) = 128 + c / 64 % 64 := by rw [b1]; simp; omega
    have e2 : bt s (k + 2) = 128 + c % 64 := by rw [b2]; simp; omega
    have k1 : k + 1 < s.size := l1.2 (by simp)
    have k2 : k + 2 < s.size := l2.2 (by simp)
    rw [if_neg (by omega), if_neg (by omega), if_neg (by omega), if_pos (by omega), finF_yes (by
      intro x hx1 hx2
      have : x = 1 ∨ x = 2 := by omega
      rcases this with rfl | rfl <;> simp only [contB, decide_eq_true_eq] <;> omega)]
    have ea : accF s k ((bt s k : Int) % 16) 3 = c := by
      show (((bt s k : Int) % 16) * 64 + (bt s (k + 1) : Int) % 64) * 64 + (bt s (k + 2) : Int) % 64 = c
      rw [e0, e1, e2]; omega
    rw [ea, if_neg (by omega)]; rfl
  · rw [enc4 g3 (by omega)] at b0 b1 b2 b3 l1 l2 l3
    rw [enc4 g3 (by omega)]
    have e0 : bt s k = 240 + c / 262144 := by rw [b0]; simp; omega
    have e1 : bt s (k + 1) = 128 + c / 4096 % 64 := by rw [b1]; simp; omega
    have e2 : bt s (k + 2) = 128 + c / 64 % 64 := by rw [b2]; simp; omega
    have e3 : bt s (k + 3) = 128 + c % 64 := by rw [b3]; simp; omega
    have k1 : k + 1 < s.size := l1.2 (by simp)
    have k2 : k + 2 < s.size := l2.2 (by simp)
    have k3 : k + 3 < s.size := l3.2 (by simp)
    rw [if_neg (by omega), if_neg (by omega), if_neg (by omega), if_neg (by omega), if_pos (by omega), finF_yes (by
      intro x hx1 hx2
      have : x = 1 ∨ x = 2 ∨ x = 3 := by omega
      rcases this with rfl | rfl | rfl <;> simp only [contB, decide_eq_true_eq] <;> omega)]
    have ea : accF s k ((bt s k : Int) % 8) 4 = c := by
      show ((((bt s k : Int) % 8) * 64 + (bt s (k + 1) : Int) % 64) * 64 + (bt s (k + 2) : Int) % 64) * 64 + (bt s (k + 3) : Int) % 64 = c
      rw [e0, e1, e2, e3]; omega
    rw [ea, if_neg (by omega)]; rfl

/-- where runeAt gives a code point, it stands there -/
theorem drop_bt {s : ByteArray} {k : Nat} (h : k < s.size) : s.data.toList.drop k = UInt8.ofNat (bt s k) :: s.data.toList.drop (k + 1) := by
  have hl : k < s.data.toList.length := by rw [Array.length_toList]; exact h
  rw [List.drop_eq_getElem_cons hl]
  congr 1
  unfold bt
  rw [List.getD_eq_getElem?_getD, List.getElem?_eq_getElem hl]
  simp
theorem finF_some {s : ByteArray} {k n : Nat} {low b : Int} (h : (finF s k n low b).1 ≠ -2) :
    (∀ x, 1 ≤ x → x < n → contB s (k + x) = true) ∧ ¬ (accF s k b n < low ∨ 1114111 < accF s k b n ∨ (55296 ≤ accF s k b n ∧ accF s k b n < 57344)) ∧ finF s k n low b = (accF s k b n, (n : Int)) := by
  have hall : ∀ x, 1 ≤ x → x < n → contB s (k + x) = true := by
    intro x h1 h2
    by_cases hx : contB s (k + x) = true
    · exact hx
    · exact absurd (by rw [finF_not h1 h2 (by simpa using hx)]) h
  rw [finF_yes hall] at h ⊢
  split at h
  · exact absurd rfl h
  · rename_i hv; exact ⟨hall, hv, by rw [if_neg hv]⟩

theorem runeV_sound {s : ByteArray} {k : Nat} (hk : k < s.size) (h : (runeV s k).1 ≠ -2) :
    ∃ c, Pl.Sc c ∧ runeV s k = ((c : Int), ((Pl.enc c).length : Int)) ∧ s.data.toList.drop k = Pl.enc c ++ s.data.toList.drop (k + (Pl.enc c).length) := by
  have d0 := drop_bt hk
  have l0 := bt_lt s k
  unfold runeV at h ⊢
  rw [if_neg (by omega)] at h ⊢
  by_cases h1 : bt s k < 128
  · rw [if_pos h1] at h ⊢
    refine ⟨bt s k, by unfold Pl.Sc; omega, ?_, ?_⟩ <;> rw [enc1 h1]
    · rfl
    · exact d0
  rw [if_neg h1] at h ⊢
  by_cases h2 : bt s k < 194
  · rw [if_pos h2] at h; exact absurd rfl h
  rw [if_neg h2] at h ⊢
  by_cases h3 : bt s k < 224
  · rw [if_pos h3] at h ⊢
    obtain ⟨hall, hv, he⟩ := finF_some h
    have c1 := hall 1 (by omega) (by omega)
    simp only [contB, decide_eq_true_eq] at c1
    have d1 := drop_bt c1.1
    have l1 := bt_lt s (k + 1)
    have ea : accF s k ((bt s k : Int) % 32) 2 = ((bt s k : Int) % 32) * 64 + (bt s (k + 1) : Int) % 64 := rfl
    rw [ea] at hv he
    obtain ⟨c, hc⟩ : ∃ c : Nat, c = bt s k % 32 * 64 + bt s (k + 1) % 64 := ⟨_, rfl⟩
    have ec : ((bt s k : Int) % 32) * 64 + (bt s (k + 1) : Int) % 64 = (c : Int) := by omega
    rw [ec] at hv he
    refine ⟨c, by unfold Pl.Sc; omega, ?_, ?_⟩ <;> rw [enc2 (by omega) (by omega)]
    · exact he
    · rw [d0, d1, show 192 + c / 64 = bt s k by omega, show 128 + c % 64 = bt s (k + 1) by omega]; rfl
  rw [if_neg h3] at h ⊢
  by_cases h4 : bt s k < 240
  · rw [if_pos h4] at h ⊢
    obtain ⟨hall, hv, he⟩ := finF_some h
    have c1 := hall 1 (by omega) (by omega)
    have c2 := hall 2 (by omega) (by omega)
    simp only [contB, decide_eq_true_eq] at c1 c2
    have d1 := drop_bt c1.1
    have d2 := drop_bt c2.1
    have l1 := bt_lt s (k + 1)
    have l2 := bt_lt s (k + 2)
    have ea : accF s k ((bt s k : Int) % 16) 3 = (((bt s k : Int) % 16) * 64 + (bt s (k + 1) : Int) % 64) * 64 + (bt s (k + 2) : Int) % 64 := rfl
    rw [ea] at hv he
    obtain ⟨c, hc⟩ : ∃ c : Nat, c = (bt s k % 16 * 64 + bt s (k + 1) % 64) * 64 + bt s (k + 2) % 64 := ⟨_, rfl⟩
    have ec : (((bt s k : Int) % 16) * 64 + (bt s (k + 1) : Int) % 64) * 64 + (bt s (k + 2) : Int) % 64 = (c : Int) := by omega
    rw [ec] at hv he
    refine ⟨c, by unfold Pl.Sc; omega, ?_, ?_⟩ <;> rw [enc3 (by omega)]
    · exact he
    · rw [d0, d1, d2, show 224 + c / 4096 = bt s k by omega, show 128 + c / 64 % 64 = bt s (k + 1) by omega, show 128 + c % 64 = bt s (k + 2) by omega]; rfl
  rw [if_neg h4] at h ⊢
  by_cases h5 : bt s k < 245
  · rw [if_pos h5] at h ⊢
    obtain ⟨hall, hv, he⟩ := finF_some h
    have c1 := hall 1 (by omega) (by omega)
    have c2 := hall 2 (by omega) (by omega)
    have c3 := hall 3 (by omega) (by omega)
    simp only [contB, decide_eq_true_eq] at c1 c2 c3
    have d1 := drop_bt c1.1
    have d2 := drop_bt c2.1
    have d3 := drop_bt c3.1
    have l1 := bt_lt s (k + 1)
    have l2 := bt_lt s (k + 2)
    have l3 := bt_lt s (k + 3)
    have ea : accF s k ((bt s k : Int) % 8) 4 = ((((bt s k : Int) % 8) * 64 + (bt s (k + 1) : Int) % 64) * 64 + (bt s (k + 2) : Int) % 64) * 64 + (bt s (k + 3) : Int) % 64 := rfl
    rw [ea] at hv he
    obtain ⟨c, hc⟩ : ∃ c : Nat, c = ((bt s k % 8 * 64 + bt s (k + 1) % 64) * 64 + bt s (k + 2) % 64) * 64 + bt s (k + 3) % 64 := ⟨_, rfl⟩
    have ec : ((((bt s k : Int) % 8) * 64 + (bt s (k + 1) : Int) % 64) * 64 + (bt s (k + 2) : Int) % 64) * 64 + (bt s (k + 3) : Int) % 64 = (c : Int) := by omega
    rw [ec] at hv he
    refine ⟨c, by unfold Pl.Sc; omega, ?_, ?_⟩ <;> rw [enc4 (by omega) (by omega)]
    · exact he
    · rw [d0, d1, d2, d3, show 240 + c / 262144 = bt s k by omega, show 128 + c / 4096 % 64 = bt s (k + 1) by omega, show 128 + c / 64 % 64 = bt s (k + 2) by omega, show 128 + c % 64 = bt s (k + 3) by omega]; rfl
  · rw [if_neg h5] at h; exact absurd rfl h

end Go.Proofs.YtmomkkakjkkakaaFmt
