/-
  WALKS of the statements' small functions: IsName, fits.
-/
import Derived.Test.YtmomkkakjkkakaaFmtOnly
import Derived.Test.YtmomkkakjkkakaaFmtHexd
import Derived.Test.YtmomkkakjkkakaaFmtSt
set_option linter.unusedVariables false
set_option linter.unusedSimpArgs false
set_option maxRecDepth 100000
namespace Go.Proofs.YtmomkkakjkkakaaFmt
open Go.RowKit

theorem plain_x {s : ByteArray} {r : List Nat} (h : PlainR (⟨#[120]⟩ ++ s) r) : ∃ t, s = S (Pl.encs t) ∧ ∀ c ∈ t, Pl.Ok c := by
  have e : (⟨#[120]⟩ ++ s : ByteArray).data.toList = 120 :: s.data.toList := by simp [ByteArray.data_append]
  have h1 := h.txt
  rw [e] at h1
  cases r with
  | nil => simp [Pl.encs] at h1
  | cons c t =>
    have hc := h.ok c (by simp)
    have a1 : runeV (⟨#[120]⟩ ++ s) 0 = ((c : Int), ((Pl.enc c).length : Int)) := runeV_cp (T := Pl.encs t) hc.1 (by rw [List.drop_zero, h.txt, Pl.encs_cons])
    have a2 : runeV (⟨#[120]⟩ ++ s) 0 = (((120 : Nat) : Int), ((Pl.enc 120).length : Int)) := runeV_cp (c := 120) (T := s.data.toList) (.inl (by omega)) (by rw [List.drop_zero, e, enc1 (by omega)]; rfl)
    rw [a1] at a2
    have hcc : c = 120 := by have := congrArg Prod.fst a2; simp only at this; omega
    subst hcc
    rw [Pl.encs_cons, show Pl.enc 120 = [120] from enc1 (by omega)] at h1
    have h2 : s.data.toList = Pl.encs t := by simpa using h1
    exact ⟨t, by rw [← h2, S_of], fun x hx => h.ok x (by simp [hx])⟩

/-- a text is a name -/
structure NameR (s : ByteArray) (r : List Nat) : Prop where
  txt : s.data.toList = Pl.encs r
  ok : ∀ c ∈ r, Pl.Ok c
  ne : r ≠ []
theorem name_x {s : ByteArray} {r : List Nat} (h : NameR s r) : PlainR (⟨#[120]⟩ ++ s) (120 :: r) := by
  refine ⟨?_, ?_, by simp⟩
  · rw [show (⟨#[120]⟩ ++ s : ByteArray).data.toList = 120 :: s.data.toList by simp [ByteArray.data_append], h.txt, Pl.encs_cons, show Pl.enc 120 = [120] from enc1 (by omega)]; rfl
  · intro c hc
    rcases List.mem_cons.mp hc with rfl | hc
    · exact ⟨.inl (by omega), by omega⟩
    · exact h.ok c hc
theorem NameR.pos {s : ByteArray} {r : List Nat} (h : NameR s r) : s.data.toList ≠ [] := by
  rw [h.txt]
  cases r with
  | nil => exact absurd rfl h.ne
  | cons c t =>
    have := enc_len_pos c
    intro e
    have := congrArg List.length e
    rw [Pl.encs_cons, List.length_append, List.length_nil] at this
    omega
theorem isName_any (s : ByteArray) (w : World) (hs : s.size ≤ 1099511627775) :
    Calls Tryf.prog 31 #[.string s] w fun e w' => (∃ b : Bool, e = .returned (.bool b) ∧ (b = true ↔ ∃ r, NameR s r)) ∧ w = w' := by
  have hxs : (⟨#[120]⟩ ++ s : ByteArray).size = 1 + s.size := by rw [ByteArray.size_append]; rfl
  have hP := IsPlain_any (⟨#[120]⟩ ++ s) w (by omega)
  by_cases h0 : s.toList = []
  · have h0' : s.toList.isEmpty = true := by rw [h0]; rfl
    have HN := Lib.hid (fun (r : List Nat) (h : NameR s r) => (h.pos (by rw [← ByteArray.toList_eq]; exact h0) : False))
    clear hP
    go_enter Tryf.func31, Tryf.ntmps31
    go_wp2_with fail
    go_ret
    exact ⟨⟨false, by simp, ⟨fun e => Bool.noConfusion e, fun ⟨r, hr⟩ => (HN.out r hr).elim⟩⟩, rfl⟩
  · have h0' : (!s.toList.isEmpty) = true := by cases hl : s.toList with | nil => exact absurd hl h0 | cons a b => rfl
    have H0 := Lib.hid h0
    go_enter Tryf.func31, Tryf.ntmps31
    go_wp2_with (go_at_call 20; (with_reducible refine hP.mono ?_); rintro e w' ⟨⟨b, rfl, hb⟩, rfl⟩; have HB := Lib.hid hb; clear hb)
    go_ret
    refine ⟨⟨b, by simp, ⟨fun e => ?_, fun ⟨r, hr⟩ => HB.out.2 ⟨_, name_x hr⟩⟩⟩, rfl⟩
    obtain ⟨r, hr⟩ := HB.out.1 e
    obtain ⟨t, rfl, hok⟩ := plain_x hr
    refine ⟨t, S_data _, hok, ?_⟩
    rintro rfl
    exact H0.out (by rw [show S (Pl.encs []) = ⟨#[]⟩ from rfl]; exact ByteArray.toList_eq _)
theorem IsName_any (s : ByteArray) (w : World) (hs : s.size ≤ 1099511627775) :
    Calls Tryf.prog 14 #[.string s] w fun e w' => (∃ b : Bool, e = .returned (.bool b) ∧ (b = true ↔ ∃ r, NameR s r)) ∧ w = w' := by
  go_enter Tryf.func14, Tryf.ntmps14
  go_wp2_with (go_at_call 31; (with_reducible refine (isName_any s _ hs).mono ?_); rintro e w' ⟨⟨b, rfl, hb⟩, rfl⟩; have HB := Lib.hid hb; clear hb)
  go_ret
  exact ⟨⟨b, rfl, HB.out⟩, rfl⟩

/-- a text is a name, or none, whatever the world -/
theorem isName_det {s : ByteArray} (hs : s.size ≤ 1099511627775) : (∃ r, NameR s r ∧ ∀ w, Calls Tryf.prog 14 #[.string s] w fun e w' => e = .returned (.bool true) ∧ w = w') ∨
    ∀ w, Calls Tryf.prog 14 #[.string s] w fun e w' => e = .returned (.bool false) ∧ w = w' := by
  by_cases h : ∃ r, NameR s r
  · obtain ⟨r, hr⟩ := h
    refine .inl ⟨r, hr, fun w => (IsName_any s w hs).mono ?_⟩
    rintro e w' ⟨⟨b, rfl, hb⟩, rfl⟩
    obtain rfl := hb.2 ⟨r, hr⟩
    exact ⟨rfl, rfl⟩
  · refine .inr fun w => (IsName_any s w hs).mono ?_
    rintro e w' ⟨⟨b, rfl, hb⟩, rfl⟩
    obtain rfl : b = false := by
      cases b with
      | false => rfl
      | true => exact absurd (hb.1 rfl) h
    exact ⟨rfl, rfl⟩

theorem fits_any {s : ByteArray} {R : List Nat} {ascii : Bool} (w : World) (hs : s.size ≤ 1099511627776) (hr : Str s R) (h : ascii = true → ∀ c ∈ R, c < 128) :
    Calls Tryf.prog 17 #[.string s, .bool ascii] w fun e w' => e = .returned (.bool true) ∧ w = w' := by
  cases ascii with
  | false =>
    clear h hr
    go_enter Tryf.func17, Tryf.ntmps17
    go_wp2_with fail
    go_ret
    exact ⟨rfl, rfl⟩
  | true =>
    have hb : ∀ j, bt s j < 128 := by
      intro j
      have h := h rfl
      unfold bt
      rw [hr.txt, encs_ascii R h, List.getD_eq_getElem?_getD, List.getElem?_map]
      cases hj : R[j]? with
      | none => simp
      | some c => have := h c (List.mem_of_getElem? hj); simp; omega
    have HB := Lib.hid hb
    clear hb h hr
    go_enter Tryf.func17, Tryf.ntmps17
    go_wp2_with fail
    go_loopg [5, 10] s.size (fun k sv iv wr => ∃ j : Nat, k = s.size - j ∧ j ≤ s.size ∧ iv = .int .i64 j ∧ w = wr)
    case atStart => exact ⟨0, rfl, Nat.zero_le _, rfl, rfl⟩
    case round =>
      obtain ⟨j, rfl, hj, rfl, rfl⟩ := hrel
      by_cases hlt : j < s.size
      · have hbj : (s[j].toNat : Int) < 128 := by rw [bt_eq hlt]; have := HB.out j; omega
        have hl : (j : Int) < (s.size : Int) := by omega
        go_wp2_with fail
        go_roundg (s.size - (j + 1))
        case measure => omega
        case rel => exact ⟨j + 1, rfl, by omega, by simp, rfl⟩
      · go_wp2_with fail
        go_ret
        exact ⟨rfl, rfl⟩
end Go.Proofs.YtmomkkakjkkakaaFmt
