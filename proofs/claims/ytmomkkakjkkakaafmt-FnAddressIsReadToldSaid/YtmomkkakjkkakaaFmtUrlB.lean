import Derived.Test.YtmomkkakjkkakaaFmtNum
set_option linter.unusedVariables false
set_option linter.unusedSimpArgs false
set_option maxRecDepth 100000
namespace Go.Proofs.YtmomkkakjkkakaaFmt
open Go.RowKit

theorem isUrl_bt (s : ByteArray) : Pl.isUrlB s.data.toList = (decide (s.size = 3) && decide (bt s 0 = 117 ∨ bt s 0 + 32 = 117) && decide (bt s 1 = 114 ∨ bt s 1 + 32 = 114) && decide (bt s 2 = 108 ∨ bt s 2 + 32 = 108)) := by
  have e : s.data.toList.length = s.size := by rw [Array.length_toList]; rfl
  unfold Pl.isUrlB Pl.lowU
  rw [e]; rfl
theorem isURL_any (s : ByteArray) (w : World) (hs : s.size ≤ 4398046511104) : Calls Tryf.prog 45 #[.string s] w fun e w' => e = .returned (.bool (Pl.isUrlB s.data.toList)) ∧ w = w' := by
  have HU := Lib.hid (isUrl_bt s)
  have hcase : s.size < 3 ∨ 3 < s.size ∨ (3 ≤ s.size ∧ s.size ≤ 3) := by omega
  rcases hcase with h3 | h3 | ⟨h3, h3'⟩
  · go_enter Tryf.func45, Tryf.ntmps45
    go_wp2
    go_ret
    exact ⟨ret_bool (by rw [HU.out]; simp; omega), rfl⟩
  · go_enter Tryf.func45, Tryf.ntmps45
    go_wp2
    go_ret
    exact ⟨ret_bool (by rw [HU.out]; simp; omega), rfl⟩
  · have b0 := Lib.hid (bt_eq (s := s) (j := 0) (by omega))
    have b1 := Lib.hid (bt_eq (s := s) (j := 1) (by omega))
    have b2 := Lib.hid (bt_eq (s := s) (j := 2) (by omega))
    have h33 := Lib.hid (show decide (s.size = 3) = true by simp; omega)
    go_enter Tryf.func45, Tryf.ntmps45
    go_wp2
    all_goals go_ret
    all_goals refine ⟨ret_bool ?_, rfl⟩
    all_goals rw [HU.out, h33.out]
    all_goals
      have a0 := b0.out
      have a1 := b1.out
      have a2 := b2.out
      rw [Bool.eq_iff_iff]
      simp
      try omega

theorem trim_bt (s : ByteArray) : Pl.trimB s.data.toList = (decide (s.size = 0) || (!Pl.isSp (bt s 0) && !Pl.isSp (bt s (s.size - 1)))) := by
  have e : s.data.toList.length = s.size := by rw [Array.length_toList]; rfl
  unfold Pl.trimB bt
  rw [e]
  congr 1
  cases h : s.data.toList with
  | nil => rw [h] at e; simp at e; simp [← e]
  | cons a t => rw [h] at e; simp at e; simp [← e]
theorem Trimmed_any (s : ByteArray) (w : World) (hs : s.size ≤ 4398046511104) : Calls Tryf.prog 25 #[.string s] w fun e w' => e = .returned (.bool (Pl.trimB s.data.toList)) ∧ w = w' := by
  have HU := Lib.hid (trim_bt s)
  rcases (show s.size = 0 ∨ 0 < s.size by omega) with h3 | h3
  · have hl : s.data.toList = [] := by
      have e : s.data.toList.length = s.size := by rw [Array.length_toList]; rfl
      exact List.eq_nil_of_length_eq_zero (by omega)
    have h0 := Lib.hid (show decide (s.size = 0) = true from decide_eq_true h3)
    have hle : s.toList.isEmpty = true := by
      have e2 : s.toList = s.data.toList := ByteArray.toList_eq s
      rw [e2, hl]; rfl
    have hle2 : s.toList = [] := by simpa using hle
    clear h3 hl
    go_enter Tryf.func25, Tryf.ntmps25
    go_wp2_with (go_at_call 40; refine (isSpace_any _ _).mono ?_; rintro e w' ⟨rfl, rfl⟩)
    go_ret
    exact ⟨ret_bool (by rw [HU.out, h0.out]; rfl), rfl⟩
  · have b0 := bt_eq h3
    have b1 := bt_eq (s := s) (j := s.size - 1) (by omega)
    have h0 := Lib.hid (show decide (s.size = 0) = false from decide_eq_false (by omega))
    have hle : s.toList.isEmpty = false := by
      have e2 : s.toList = s.data.toList := ByteArray.toList_eq s
      have e : s.data.toList.length = s.size := by rw [Array.length_toList]; rfl
      rw [e2]
      cases h : s.data.toList with
      | nil => rw [h] at e; simp at e; omega
      | cons a t => rfl
    have hle2 : ¬ s.toList = [] := by simpa using hle
    have l0 := bt_lt s 0
    have l1 := bt_lt s (s.size - 1)
    have m0 : (s[0].toNat : Int) < 256 := by omega
    have m1 : (s[s.size - 1].toNat : Int) < 256 := by omega
    have B0 := Lib.hid b0
    have B1 := Lib.hid b1
    clear b0 b1 l0 l1
    by_cases hs0 : Pl.isSp (s[0].toNat : Int) = true
    · have H0 := Lib.hid hs0
      go_enter Tryf.func25, Tryf.ntmps25
      go_wp2_with (go_at_call 40; refine (isSpace_any _ _).mono ?_; rintro e w' ⟨rfl, rfl⟩)
      all_goals go_ret
      all_goals exact ⟨ret_bool (by rw [HU.out, h0.out, ← B0.out, H0.out]; rfl), rfl⟩
    · have hs0 : Pl.isSp (s[0].toNat : Int) = false := by simpa using hs0
      have H0 := Lib.hid hs0
      go_enter Tryf.func25, Tryf.ntmps25
      go_wp2_with (go_at_call 40; refine (isSpace_any _ _).mono ?_; rintro e w' ⟨rfl, rfl⟩)
      all_goals go_ret
      all_goals exact ⟨ret_bool (by rw [HU.out, h0.out, ← B0.out, H0.out, ← B1.out]; rfl), rfl⟩

/-- at a text out of bytes -/
theorem isURL_S (l : List UInt8) (w : World) (hs : l.length ≤ 4398046511104) : Calls Tryf.prog 45 #[.string (S l)] w fun e w' => e = .returned (.bool (Pl.isUrlB l)) ∧ w = w' := by
  have h := isURL_any (S l) w (by rw [S_size]; exact hs)
  rwa [S_data] at h
theorem Trimmed_S (l : List UInt8) (w : World) (hs : l.length ≤ 4398046511104) : Calls Tryf.prog 25 #[.string (S l)] w fun e w' => e = .returned (.bool (Pl.trimB l)) ∧ w = w' := by
  have h := Trimmed_any (S l) w (by rw [S_size]; exact hs)
  rwa [S_data] at h
end Go.Proofs.YtmomkkakjkkakaaFmt
