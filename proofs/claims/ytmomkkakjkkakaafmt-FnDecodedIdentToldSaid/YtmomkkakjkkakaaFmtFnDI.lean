/-
  WALK of the statement on a name that is printed and decoded again: true at every name.
-/
import Derived.Test.YtmomkkakjkkakaaFmtFnI
import Derived.Test.YtmomkkakjkkakaaFmtDw
set_option linter.unusedVariables false
set_option linter.unusedSimpArgs false
set_option maxRecDepth 100000
namespace Go.Proofs.YtmomkkakjkkakaaFmt
open Go.RowKit Go.Kit Go.Extern.Stop Go.Stop Go.Extern

theorem zzDec_any (r : List Nat) (w : World) (hok : ∀ c ∈ r, Pl.Ok c) (hs : (Pl.encs r).length ≤ 1099511627776) (hT : Tabs w) :
    Calls Tryf.prog 38 #[.string (S (Pl.encs r))] w fun e w' => e = .returned (.string (S (Pl.encs (Pl.decF r)))) ∧ Below w.heap.size w w' := by
  go_enter Tryf.func38, Tryf.ntmps38
  go_wp2_with (go_at_call 50; refine (decEsc_any r w hok hs hT).mono ?_; rintro e w' ⟨rfl, hb⟩)
  go_ret
  exact ⟨rfl, hb⟩
theorem dec_any (r : List Nat) (w : World) (hok : ∀ c ∈ r, Pl.Ok c) (hs : (Pl.encs r).length ≤ 1099511627776) (hT : Tabs w) :
    Calls Tryf.prog 23 #[.string (S (Pl.encs r))] w fun e w' => e = .returned (.string (S (Pl.encs (Pl.decF r)))) ∧ Below w.heap.size w w' := by
  go_enter Tryf.func23, Tryf.ntmps23
  go_wp2_with (go_at_call 38; refine (zzDec_any r w hok hs hT).mono ?_; rintro e w' ⟨rfl, hb⟩)
  go_ret
  exact ⟨rfl, hb⟩
set_option maxHeartbeats 4000000 in
theorem fnDecodedIdent_walk {F : Interp} (s : ByteArray) (y z : Int) (ascii : Bool) (w : World) (hs : s.size ≤ 9223372036854775807) (hT : Tabs w) (hF : F.told.answers w.tape) :
    Calls Tryf.prog 9 #[.string s, .int .i64 y, .int .i64 z, .bool ascii] w fun e w' => e = .returned (.bool true) ∧ Below w.heap.size w w' := by
  by_cases h1 : 2147483647 < s.size
  · go_enter Tryf.func9, Tryf.ntmps9
    go_wp2_with fail
    go_ret
    exact ⟨rfl, Below.refl _ _⟩
  rcases isName_det (s := s) (by omega) with ⟨r, hr, hN⟩ | hN
  · obtain ⟨m, hm3, hm⟩ := mask3 y
    obtain ⟨k, hk1, hk⟩ := mask1 z
    obtain rfl : s = S (Pl.encs r) := by rw [← hr.txt, S_of]
    have hsz : (S (Pl.encs r)).size = (Pl.encs r).length := S_size _
    have hl := ident_len (m := m) (may := decide (k = 0)) (ascii := ascii) hr.ok
    have HI := Lib.hid (ident_any (ascii := ascii) (m := m) hm3 hk1 (Str.of r) hr.ne hr.ok (by omega) hT hF)
    have HD := Lib.hid (fun W h => dec_any (Pl.identF m (decide (k = 0)) ascii r) W (Pl.ident_ok hr.ok) (by omega) h)
    have HE := Lib.hid (Pl.ident_dec (mode := m) (may := decide (k = 0)) (ascii := ascii) hr.ok)
    have HT := Lib.hid hT
    clear hl hT hF hr
    go_enter Tryf.func9, Tryf.ntmps9
    go_wp2_with (first
      | (go_at_call 14; (with_reducible refine (hN _).mono ?_); rintro e w' ⟨rfl, rfl⟩)
      | (go_at_call 15; (with_reducible refine HI.out.mono ?_); rintro e w1 ⟨rfl, hb1⟩; have HB1 := Lib.hid hb1; clear hb1)
      | (go_at_call 23; (with_reducible refine (HD.out _ (HT.out.below HB1.out)).mono ?_); rintro e w2 ⟨rfl, hb2⟩; have HB2 := Lib.hid hb2; clear hb2; rw [HE.out]))
    go_ret
    exact ⟨by simp, HB1.out.trans (HB2.out.mono HB1.out.size)⟩
  · go_enter Tryf.func9, Tryf.ntmps9
    go_wp2_with (go_at_call 14; (with_reducible refine (hN _).mono ?_); rintro e w' ⟨rfl, rfl⟩)
    go_ret
    exact ⟨rfl, Below.refl _ _⟩
end Go.Proofs.YtmomkkakjkkakaaFmt
