/-
  WALK of the statement on a text that is printed in quotes and decoded again without them: true at every text.
-/
import Derived.Test.YtmomkkakjkkakaaFmtZq
import Derived.Test.YtmomkkakjkkakaaFmtDw
set_option linter.unusedVariables false
set_option linter.unusedSimpArgs false
set_option maxRecDepth 100000
namespace Go.Proofs.YtmomkkakjkkakaaFmt
open Go.RowKit Go.Kit Go.Extern.Stop Go.Stop Go.Extern

theorem zzDec_any (r : List Nat) (w : World) (hok : ∀ c ∈ r, Pl.Ok c) (hs : (Pl.encs r).length ≤ 1099511627776) (hT : Tabs w) :
    Calls Tryf.prog 38 #[.string (S (Pl.encs r))] w fun e w' => e = .returned (.string (S (Pl.encs (Pl.decF r)))) ∧ Below w.heap.size w w' := by
  go_enter Tryf.func38, Tryf.ntmps38
  go_wp2_with (go_at_call 50; refine (decEsc_any r w hok hs hT).mono ?_; rintro e w' ⟨rfl, hb⟩)
  go_ret
  exact ⟨rfl, hb⟩
theorem dec_any (r : List Nat) (w : World) (hok : ∀ c ∈ r, Pl.Ok c) (hs : (Pl.encs r).length ≤ 1099511627776) (hT : Tabs w) :
    Calls Tryf.prog 23 #[.string (S (Pl.encs r))] w fun e w' => e = .returned (.string (S (Pl.encs (Pl.decF r)))) ∧ Below w.heap.size w w' := by
  go_enter Tryf.func23, Tryf.ntmps23
  go_wp2_with (go_at_call 38; refine (zzDec_any r w hok hs hT).mono ?_; rintro e w' ⟨rfl, hb⟩)
  go_ret
  exact ⟨rfl, hb⟩
theorem quote_inside {q : Nat} {ascii : Bool} {r : List Nat} (hq : q = 34 ∨ q = 39) : (S (Pl.encs (Pl.quoteF ascii q r))).extract 1 ((Pl.encs (Pl.innerF ascii q r)).length + 1) = S (Pl.encs (Pl.innerF ascii q r)) := by
  have hb := quote_bytes ascii (q := q) (by omega) r
  have hp : preQ q = [UInt8.ofNat q] := by unfold preQ; rw [if_neg (by omega)]
  rw [hp] at hb
  rw [hb]
  apply ByteArray.ext
  rw [ByteArray.data_extract]
  apply Array.ext'
  rw [Array.toList_extract, S_data, S_data, List.extract_eq_take_drop]
  simp
set_option maxHeartbeats 4000000 in
theorem fnDecodedQuoted_walk {F : Interp} (s : ByteArray) (double ascii : Bool) (w : World) (hs : s.size ≤ 9223372036854775807) (hT : Tabs w) (hO : Folds w) (hF : F.told.answers w.tape) :
    Calls Tryf.prog 13 #[.string s, .bool double, .bool ascii] w fun e w' => e = .returned (.bool true) ∧ Below w.heap.size w w' := by
  by_cases h1 : 2147483647 < s.size
  · go_enter Tryf.func13, Tryf.ntmps13
    go_wp2_with fail
    go_ret
    exact ⟨rfl, Below.refl _ _⟩
  have hxs : (⟨#[120]⟩ ++ s : ByteArray).size = 1 + s.size := by rw [ByteArray.size_append]; rfl
  rcases plain_det (s := s) (by omega) with ⟨r, rfl, hok, hP⟩ | hP
  · have hsz : (S (Pl.encs r)).size = (Pl.encs r).length := S_size _
    rcases low_det (r := r) (ascii := ascii) hok (by omega) with ⟨hlow, hL⟩ | hL
    · cases double with
      | false =>
        have hl := quote_size (q := 39) (ascii := ascii) (r := r) (by simp) hok
        have hql := Pl.quote_len (ascii := ascii) (q := 39) (r := r) (by simp)
        have HI := Lib.hid (show Calls Tryf.prog 22 #[.string (S (Pl.encs r)), .int .u8 39, .bool ascii] w fun e w' => e = .returned (.string (S (Pl.encs (Pl.quoteF ascii 39 r)))) ∧ Below w.heap.size w w' from by_any (q := 39) (by simp) (Str.of r) hok (by omega) hT hO hF)
        have HX := Lib.hid (quote_inside (q := 39) (ascii := ascii) (r := r) (by simp))
        have HD := Lib.hid (fun W h => dec_any (Pl.innerF ascii 39 r) W (Pl.inner_ok hok) (by omega) h)
        have HE := Lib.hid (Pl.inner_dec (q := 39) (by omega) hok hlow)
        have hts : (S (Pl.encs (Pl.quoteF ascii 39 r))).size = (Pl.encs (Pl.innerF ascii 39 r)).length + 2 := by rw [S_size]; omega
        have hti : (Pl.encs (Pl.innerF ascii 39 r)).length ≤ 17179869190 := by omega
        obtain ⟨m, hm⟩ : ∃ m, (Pl.encs (Pl.innerF ascii 39 r)).length = m := ⟨_, rfl⟩
        rw [hm] at hts hti
        have HX2 := Lib.hid (by have := HX.out; rw [hm] at this; exact this : (S (Pl.encs (Pl.quoteF ascii 39 r))).extract 1 (m + 1) = S (Pl.encs (Pl.innerF ascii 39 r)))
        have HT := Lib.hid hT
        generalize S (Pl.encs (Pl.quoteF ascii 39 r)) = Tx at HI HX2 hts
        clear hl hql hm HX hT hO hF hlow hok
        go_enter Tryf.func13, Tryf.ntmps13
        go_wp2_with (first
          | (go_at_call 20; (with_reducible refine (hP _).mono ?_); rintro e w' ⟨rfl, rfl⟩)
          | (go_at_call 21; (with_reducible refine (hL _).mono ?_); rintro e w' ⟨rfl, rfl⟩)
          | (go_at_call 22; (with_reducible refine HI.out.mono ?_); rintro e w1 ⟨rfl, hb1⟩; have HB1 := Lib.hid hb1; clear hb1)
          | (go_at_call 23; rw [HX2.out]; (with_reducible refine (HD.out _ (HT.out.below HB1.out)).mono ?_); rintro e w2 ⟨rfl, hb2⟩; have HB2 := Lib.hid hb2; clear hb2; rw [HE.out]))
        go_ret
        exact ⟨by simp, HB1.out.trans (HB2.out.mono HB1.out.size)⟩
      | true =>
        have hl := quote_size (q := 34) (ascii := ascii) (r := r) (by simp) hok
        have hql := Pl.quote_len (ascii := ascii) (q := 34) (r := r) (by simp)
        have HI := Lib.hid (show Calls Tryf.prog 22 #[.string (S (Pl.encs r)), .int .u8 34, .bool ascii] w fun e w' => e = .returned (.string (S (Pl.encs (Pl.quoteF ascii 34 r)))) ∧ Below w.heap.size w w' from by_any (q := 34) (by simp) (Str.of r) hok (by omega) hT hO hF)
        have HX := Lib.hid (quote_inside (q := 34) (ascii := ascii) (r := r) (by simp))
        have HD := Lib.hid (fun W h => dec_any (Pl.innerF ascii 34 r) W (Pl.inner_ok hok) (by omega) h)
        have HE := Lib.hid (Pl.inner_dec (q := 34) (by omega) hok hlow)
        have hts : (S (Pl.encs (Pl.quoteF ascii 34 r))).size = (Pl.encs (Pl.innerF ascii 34 r)).length + 2 := by rw [S_size]; omega
        have hti : (Pl.encs (Pl.innerF ascii 34 r)).length ≤ 17179869190 := by omega
        obtain ⟨m, hm⟩ : ∃ m, (Pl.encs (Pl.innerF ascii 34 r)).length = m := ⟨_, rfl⟩
        rw [hm] at hts hti
        have HX2 := Lib.hid (by have := HX.out; rw [hm] at this; exact this : (S (Pl.encs (Pl.quoteF ascii 34 r))).extract 1 (m + 1) = S (Pl.encs (Pl.innerF ascii 34 r)))
        have HT := Lib.hid hT
        generalize S (Pl.encs (Pl.quoteF ascii 34 r)) = Tx at HI HX2 hts
        clear hl hql hm HX hT hO hF hlow hok
        go_enter Tryf.func13, Tryf.ntmps13
        go_wp2_with (first
          | (go_at_call 20; (with_reducible refine (hP _).mono ?_); rintro e w' ⟨rfl, rfl⟩)
          | (go_at_call 21; (with_reducible refine (hL _).mono ?_); rintro e w' ⟨rfl, rfl⟩)
          | (go_at_call 22; (with_reducible refine HI.out.mono ?_); rintro e w1 ⟨rfl, hb1⟩; have HB1 := Lib.hid hb1; clear hb1)
          | (go_at_call 23; rw [HX2.out]; (with_reducible refine (HD.out _ (HT.out.below HB1.out)).mono ?_); rintro e w2 ⟨rfl, hb2⟩; have HB2 := Lib.hid hb2; clear hb2; rw [HE.out]))
        go_ret
        exact ⟨by simp, HB1.out.trans (HB2.out.mono HB1.out.size)⟩
    · go_enter Tryf.func13, Tryf.ntmps13
      go_wp2_with (first
        | (go_at_call 20; (with_reducible refine (hP _).mono ?_); rintro e w' ⟨rfl, rfl⟩)
        | (go_at_call 21; (with_reducible refine (hL _).mono ?_); rintro e w' ⟨rfl, rfl⟩))
      go_ret
      exact ⟨rfl, Below.refl _ _⟩
  · go_enter Tryf.func13, Tryf.ntmps13
    go_wp2_with (go_at_call 20; (with_reducible refine (hP _).mono ?_); rintro e w' ⟨rfl, rfl⟩)
    go_ret
    exact ⟨rfl, Below.refl _ _⟩
end Go.Proofs.YtmomkkakjkkakaaFmt
