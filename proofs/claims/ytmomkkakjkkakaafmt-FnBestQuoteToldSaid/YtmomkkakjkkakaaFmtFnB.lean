/-
  WALK of the statement on the quotes that are chosen: true at every text.
-/
import Derived.Test.YtmomkkakjkkakaaFmtZq
import Derived.Deep.RegionWith
set_option linter.unusedVariables false
set_option linter.unusedSimpArgs false
set_option maxRecDepth 100000
namespace Go.Proofs.YtmomkkakjkkakaaFmt
open Go.RowKit Go.Kit Go.Extern.Stop Go.Stop Go.Extern

set_option maxHeartbeats 4000000 in
theorem fnBestQuote_walk {F : Interp} (s : ByteArray) (ascii : Bool) (w : World) (hs : s.size ≤ 9223372036854775807) (hT : Tabs w) (hO : Folds w) (hF : F.told.answers w.tape) :
    Calls Tryf.prog 12 #[.string s, .bool ascii] w fun e w' => e = .returned (.bool true) ∧ Below w.heap.size w w' := by
  by_cases h1 : 2147483647 < s.size
  · go_enter Tryf.func12, Tryf.ntmps12
    go_wp2_with fail
    go_ret
    exact ⟨rfl, Below.refl _ _⟩
  have hxs : (⟨#[120]⟩ ++ s : ByteArray).size = 1 + s.size := by rw [ByteArray.size_append]; rfl
  rcases plain_det (s := s) (by omega) with ⟨r, rfl, hok, hP⟩ | hP
  · have hsz : (S (Pl.encs r)).size = (Pl.encs r).length := S_size _
    have HBQ := Lib.hid (bq_any (w := w) (Str.of r) hok (by omega))
    have HQA := Lib.hid (fun W h1 h2 h3 => q_any (F := F) (w := W) (ascii := ascii) (Str.of r) hok (by omega) h1 h2 h3)
    have HSH := Lib.hid (Pl.best_short (ascii := ascii) (r := r))
    have HT := Lib.hid hT
    have HFO := Lib.hid hO
    have HF := Lib.hid hF
    have h34 := quote_size (q := 34) (ascii := ascii) (r := r) (by simp) hok
    have h39 := quote_size (q := 39) (ascii := ascii) (r := r) (by simp) hok
    have H34 := Lib.hid (show ∀ W, Tabs W → Folds W → F.told.answers W.tape → Calls Tryf.prog 22 #[.string (S (Pl.encs r)), .int .u8 34, .bool ascii] W fun e w' => e = .returned (.string (S (Pl.encs (Pl.quoteF ascii 34 r)))) ∧ Below W.heap.size W w' from fun W h1 h2 h3 => by_any (q := 34) (by simp) (Str.of r) hok (by omega) h1 h2 h3)
    have H39 := Lib.hid (show ∀ W, Tabs W → Folds W → F.told.answers W.tape → Calls Tryf.prog 22 #[.string (S (Pl.encs r)), .int .u8 39, .bool ascii] W fun e w' => e = .returned (.string (S (Pl.encs (Pl.quoteF ascii 39 r)))) ∧ Below W.heap.size W w' from fun W h1 h2 h3 => by_any (q := 39) (by simp) (Str.of r) hok (by omega) h1 h2 h3)
    have hs34 : (S (Pl.encs (Pl.quoteF ascii 34 r))).size = (Pl.encs (Pl.quoteF ascii 34 r)).length := S_size _
    have hs39 : (S (Pl.encs (Pl.quoteF ascii 39 r))).size = (Pl.encs (Pl.quoteF ascii 39 r)).length := S_size _
    clear hT hO hF
    rcases bestF_two r with hb | hb
    · rw [hb] at HBQ HQA HSH
      have hle : (S (Pl.encs (Pl.quoteF ascii 34 r))).size ≤ (S (Pl.encs (Pl.quoteF ascii 39 r))).size := by rw [hs34, hs39]; exact HSH.out
      have HBQ2 := Lib.hid (show Calls Tryf.prog 30 #[.string (S (Pl.encs r)), .bool false] w fun e w' => e = .returned (.int .u8 34) ∧ Below w.heap.size w w' from HBQ.out)
      generalize S (Pl.encs (Pl.quoteF ascii 34 r)) = T34 at *
      generalize S (Pl.encs (Pl.quoteF ascii 39 r)) = T39 at *
      have hz34 : T34.size ≤ 17179869180 := by omega
      have hz39 : T39.size ≤ 17179869180 := by omega
      clear hs34 hs39 h34 h39 hb HSH HBQ hok
      go_enter Tryf.func12, Tryf.ntmps12
      go_wp2_with (first
        | (go_at_call 20; (with_reducible refine (hP _).mono ?_); rintro e w' ⟨rfl, rfl⟩)
        | (go_at_call 30; (with_reducible refine HBQ2.out.mono ?_); rintro e w1 ⟨rfl, hb1⟩; have HB1 := Lib.hid hb1; clear hb1)
        | (go_at_call_of 22 (Value.int .u8 34); (with_reducible refine (H34.out _ (HT.out.below HB1.out) (HFO.out.below HB1.out) (by rw [HB1.out.tape]; exact HF.out)).mono ?_); rintro e w2 ⟨rfl, hb2⟩; have HB2 := Lib.hid (HB1.out.trans (hb2.mono HB1.out.size)); clear hb2)
        | (go_at_call 22; (with_reducible refine (H39.out _ (HT.out.below HB2.out) (HFO.out.below HB2.out) (by rw [HB2.out.tape]; exact HF.out)).mono ?_); rintro e w3 ⟨rfl, hb3⟩; have HB3 := Lib.hid (HB2.out.trans (hb3.mono HB2.out.size)); clear hb3)
        | (go_at_call 24; (with_reducible refine (HQA.out _ (HT.out.below HB3.out) (HFO.out.below HB3.out) (by rw [HB3.out.tape]; exact HF.out)).mono ?_); rintro e w4 ⟨rfl, hb4⟩; have HB4 := Lib.hid (HB3.out.trans (hb4.mono HB3.out.size)); clear hb4))
      go_ret
      exact ⟨by simp, HB4.out⟩
    · rw [hb] at HBQ HQA HSH
      have hle : (S (Pl.encs (Pl.quoteF ascii 39 r))).size ≤ (S (Pl.encs (Pl.quoteF ascii 34 r))).size := by rw [hs34, hs39]; exact HSH.out
      have HBQ2 := Lib.hid (show Calls Tryf.prog 30 #[.string (S (Pl.encs r)), .bool false] w fun e w' => e = .returned (.int .u8 39) ∧ Below w.heap.size w w' from HBQ.out)
      generalize S (Pl.encs (Pl.quoteF ascii 34 r)) = T34 at *
      generalize S (Pl.encs (Pl.quoteF ascii 39 r)) = T39 at *
      have hz34 : T34.size ≤ 17179869180 := by omega
      have hz39 : T39.size ≤ 17179869180 := by omega
      clear hs34 hs39 h34 h39 hb HSH HBQ hok
      go_enter Tryf.func12, Tryf.ntmps12
      go_wp2_with (first
        | (go_at_call 20; (with_reducible refine (hP _).mono ?_); rintro e w' ⟨rfl, rfl⟩)
        | (go_at_call 30; (with_reducible refine HBQ2.out.mono ?_); rintro e w1 ⟨rfl, hb1⟩; have HB1 := Lib.hid hb1; clear hb1)
        | (go_at_call_of 22 (Value.int .u8 39); (with_reducible refine (H39.out _ (HT.out.below HB1.out) (HFO.out.below HB1.out) (by rw [HB1.out.tape]; exact HF.out)).mono ?_); rintro e w2 ⟨rfl, hb2⟩; have HB2 := Lib.hid (HB1.out.trans (hb2.mono HB1.out.size)); clear hb2)
        | (go_at_call 22; (with_reducible refine (H34.out _ (HT.out.below HB2.out) (HFO.out.below HB2.out) (by rw [HB2.out.tape]; exact HF.out)).mono ?_); rintro e w3 ⟨rfl, hb3⟩; have HB3 := Lib.hid (HB2.out.trans (hb3.mono HB2.out.size)); clear hb3)
        | (go_at_call 24; (with_reducible refine (HQA.out _ (HT.out.below HB3.out) (HFO.out.below HB3.out) (by rw [HB3.out.tape]; exact HF.out)).mono ?_); rintro e w4 ⟨rfl, hb4⟩; have HB4 := Lib.hid (HB3.out.trans (hb4.mono HB3.out.size)); clear hb4))
      go_ret
      exact ⟨by simp, HB4.out⟩
  · go_enter Tryf.func12, Tryf.ntmps12
    go_wp2_with (go_at_call 20; (with_reducible refine (hP _).mono ?_); rintro e w' ⟨rfl, rfl⟩)
    go_ret
    exact ⟨rfl, Below.refl _ _⟩
end Go.Proofs.YtmomkkakjkkakaaFmt
