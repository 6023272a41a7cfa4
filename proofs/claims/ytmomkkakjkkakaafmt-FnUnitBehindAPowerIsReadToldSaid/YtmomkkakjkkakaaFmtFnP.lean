/-
  WALK of the statement on units behind a number with a power: true at every name, number and power.
-/
import Derived.Test.YtmomkkakjkkakaaFmtFnU
set_option linter.unusedVariables false
set_option linter.unusedSimpArgs false
set_option maxRecDepth 100000
namespace Go.Proofs.YtmomkkakjkkakaaFmt
open Go.RowKit Go.Kit Go.Extern.Stop Go.Stop Go.Extern

set_option maxHeartbeats 4000000 in
theorem fnPower_walk {F : Interp} (s : ByteArray) (base : Option Addr) (n cap : Nat) (f : Nat → Nat) (p : ByteArray) (z : Int) (ascii : Bool) (w : World) (hs : s.size ≤ 9223372036854775807) (hn : n ≤ 9223372036854775807) (hp : p.size ≤ 9223372036854775807) (hB : Bytes w base n f) (hT : Tabs w) (hF : F.told.answers w.tape) :
    Calls Tryf.prog 6 #[.string s, .slice base n cap, .string p, .int .i64 z, .bool ascii] w fun e w' => e = .returned (.bool true) ∧ Below w.heap.size w w' := by
  by_cases h1 : 2147483647 < s.size
  · go_enter Tryf.func6, Tryf.ntmps6
    go_wp2_with fail
    go_ret
    exact ⟨rfl, Below.refl _ _⟩
  by_cases h2 : 2147483647 < n
  · go_enter Tryf.func6, Tryf.ntmps6
    go_wp2_with fail
    go_ret
    exact ⟨rfl, Below.refl _ _⟩
  by_cases h3 : 2147483647 < p.size
  · go_enter Tryf.func6, Tryf.ntmps6
    go_wp2_with fail
    go_ret
    exact ⟨rfl, Below.refl _ _⟩
  by_cases h0 : p.size = 0
  · obtain rfl : p = ⟨#[]⟩ := by
      have : p.data = #[] := Array.eq_empty_of_size_eq_zero h0
      cases p; simp at this; subst this; rfl
    have HN := Lib.hid (numeral_plain (cap := cap) (by omega) hB)
    clear hT hF hB h0
    go_enter Tryf.func6, Tryf.ntmps6
    go_wp2_with (go_at_call 18; (with_reducible refine HN.out.mono ?_); rintro e w1 ⟨rfl, hb1⟩; have HB1 := Lib.hid hb1; clear hb1)
    all_goals go_ret
    all_goals exact ⟨rfl, HB1.out⟩
  have hNum := numeral_power (cap := cap) (p := p) (by omega) (by omega) (by omega) hB
  have hp1 : p.toList.isEmpty = false := by
    cases h : p.toList with
    | nil =>
      have h2 := congrArg List.length h
      rw [ByteArray.toList_eq, Array.length_toList, List.length_nil] at h2
      have h3 : p.size = p.data.size := rfl
      omega
    | cons a b => rfl
  by_cases hg : n ≤ 1000 ∧ n ≠ 0 ∧ p.size ≤ 1000 ∧ ∃ k, PwB p k
  · obtain ⟨kp, hk⟩ := hg.2.2.2
    obtain ⟨pw, hpw, hPw, hpw0, hpwl⟩ := power_of hk
    have hA : UnitAt 3 (dsOf f n ++ 101 :: pw) := power_at (by intro e; have := dsOf_len f n; rw [e] at this; simp at this; omega) (dsOf_dig f n) hPw hpw0
    have hAl : (Pl.encs (dsOf f n ++ 101 :: pw)).length ≤ 2147483647 := by rw [Pl.encs_len_low (fun c hc => (hA.low c hc).1), List.length_append, List.length_cons, dsOf_len, hpwl]; omega
    have HN := Lib.hid (hNum.mono (fun e w' (h : NumPw f n p w e w') => show e = .returned (.tuple #[.string (S (Pl.encs (dsOf f n ++ 101 :: pw))), .bool true]) ∧ Below w.heap.size w w' from by
      obtain ⟨⟨t, b, rfl, hb, ht⟩, hbl⟩ := h
      obtain rfl := hb.2 hg
      rw [ht rfl, hpw, show (⟨#[101]⟩ : ByteArray) = S [101] from rfl, S_append, S_append, Pl.encs_append, Pl.encs_cons, show Pl.enc 101 = [101] from enc1 (by omega)]
      exact ⟨rfl, hbl⟩))
    rcases isName_det (s := s) (by omega) with ⟨r, hr, hN⟩ | hN
    · obtain ⟨k, hk1, hk⟩ := mask1 z
      obtain rfl : s = S (Pl.encs r) := by rw [← hr.txt, S_of]
      have hsz : (S (Pl.encs r)).size = (Pl.encs r).length := S_size _
      have HU := Lib.hid (show ∀ W, Tabs W → F.told.answers W.tape → Calls Tryf.prog 19 #[.string (S (Pl.encs (dsOf f n ++ 101 :: pw))), .string (S (Pl.encs r)), .int .i64 3, .int .i64 k, .bool ascii] W fun e w' => e = .returned (.bool true) ∧ Below W.heap.size W w' from
        fun W h1 h2 => unitIsRead_any (m := 3) (by omega) hk1 hA hAl hr.ne hr.ok (by omega) h1 h2)
      have HT := Lib.hid hT
      have HF := Lib.hid hF
      clear hNum hT hF hr hA hAl hB hg hpw hPw hpw0 hpwl
      generalize Pl.encs (dsOf f n ++ 101 :: pw) = A at HN HU
      go_enter Tryf.func6, Tryf.ntmps6
      go_wp2_with (first
        | (go_at_call 18; (with_reducible refine HN.out.mono ?_); rintro e w1 ⟨rfl, hb1⟩; have HB1 := Lib.hid hb1; clear hb1)
        | (go_at_call 14; (with_reducible refine (hN _).mono ?_); rintro e w' ⟨rfl, rfl⟩)
        | (go_at_call 19; (with_reducible refine (HU.out _ (HT.out.below HB1.out) (by rw [HB1.out.tape]; exact HF.out)).mono ?_); rintro e w2 ⟨rfl, hb2⟩; have HB2 := Lib.hid hb2; clear hb2))
      go_ret
      exact ⟨rfl, HB1.out.trans (HB2.out.mono HB1.out.size)⟩
    · clear hNum hT hF hB hg hA hAl hpw hPw hpw0 hpwl
      go_enter Tryf.func6, Tryf.ntmps6
      go_wp2_with (first
        | (go_at_call 18; (with_reducible refine HN.out.mono ?_); rintro e w1 ⟨rfl, hb1⟩; have HB1 := Lib.hid hb1; clear hb1)
        | (go_at_call 14; (with_reducible refine (hN _).mono ?_); rintro e w' ⟨rfl, rfl⟩))
      go_ret
      exact ⟨rfl, HB1.out⟩
  · have HN := Lib.hid (hNum.mono (fun e w' (h : NumPw f n p w e w') => show (∃ t, e = .returned (.tuple #[.string t, .bool false])) ∧ Below w.heap.size w w' from by
      obtain ⟨⟨t, b, rfl, hb, ht⟩, hbl⟩ := h
      obtain rfl : b = false := by
        cases b with
        | false => rfl
        | true => exact absurd (hb.1 rfl) hg
      exact ⟨⟨t, rfl⟩, hbl⟩))
    clear hNum hT hF hB hg
    go_enter Tryf.func6, Tryf.ntmps6
    go_wp2_with (go_at_call 18; (with_reducible refine HN.out.mono ?_); rintro e w1 ⟨⟨t, rfl⟩, hb1⟩; have HB1 := Lib.hid hb1; clear hb1)
    go_ret
    exact ⟨rfl, HB1.out⟩
end Go.Proofs.YtmomkkakjkkakaaFmt
