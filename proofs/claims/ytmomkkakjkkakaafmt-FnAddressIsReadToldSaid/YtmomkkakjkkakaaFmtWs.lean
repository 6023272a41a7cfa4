/-
  WALK of WouldStartIdentifierWithoutEscapes.
-/
import Derived.Test.YtmomkkakjkkakaaFmtPr
import Derived.Test.YtmomkkakjkkakaaFmtSt
set_option linter.unusedVariables false
set_option linter.unusedSimpArgs false
set_option maxRecDepth 100000
namespace Go.Proofs.YtmomkkakjkkakaaFmt
open Go.RowKit

theorem decS {x : ByteArray} {c : Nat} {t : List Nat} {w : World} (h : Str x (c :: t)) (hc : Pl.Sc c) (hT : Tabs w) :
    Calls Tryf.prog 73 #[.string x] w fun e w' => e = .returned (.tuple #[.int .i32 c, .int .i64 (Pl.enc c).length]) ∧ Below w.heap.size w w' := by
  rw [h.eq]; exact decode_cons c t w hc hT
theorem decS0 {x : ByteArray} {w : World} (h : Str x []) (hT : Tabs w) :
    Calls Tryf.prog 73 #[.string x] w fun e w' => e = .returned (.tuple #[.int .i32 65533, .int .i64 0]) ∧ Below w.heap.size w w' := by
  rw [h.eq]; exact decode_nil w hT
/-- the sign of a wrong text is three bytes where it stands itself -/
theorem bad_three {c : Nat} (h : (c : Int) = 65533) : (Pl.enc c).length = 3 := by
  have : c = 65533 := by omega
  subst this
  rw [enc3 (by omega)]; rfl
set_option maxHeartbeats 1000000 in
theorem wouldStart_any {x : ByteArray} {r : List Nat} (h : Str x r) (hok : ∀ c ∈ r, Pl.Ok c) (hs : x.size ≤ 1099511627776) (w : World) (hT : Tabs w) :
    Calls Tryf.prog 66 #[.string x] w fun e w' => e = .returned (.bool (Pl.wouldStart r)) ∧ Below w.heap.size w w' := by
  cases r with
  | nil =>
    have e : Pl.wouldStart [] = false := by decide
    rw [e]
    have HH := Lib.hid h
    have HT := Lib.hid hT
    clear h hT
    go_enter Tryf.func66, Tryf.ntmps66
    go_wp2_with (go_at_call 73; (with_reducible refine (decS0 HH.out HT.out).mono ?_); rintro e w' ⟨rfl, hb⟩)
    go_ret
    exact ⟨rfl, hb⟩
  | cons c t =>
    have hco := hok c (by simp)
    have hcs : Pl.Sc c := hco.1
    have hc1 : c ≤ 1114111 := by have := hcs; unfold Pl.Sc at this; omega
    have hc0 : 0 < c := by have := hco.2; omega
    have hcl := enc_len_le c
    have hcp := enc_len_pos c
    have hxs := h.pos
    have hx1 := h.tail
    have HW := Lib.hid (show Pl.wouldStart (c :: t) = (Pl.startsB c || (decide ((c : Int) = 45) && (Pl.startsB (Pl.pk t 0) || decide (Pl.pk t 0 = 45)))) from rfl)
    have HH := Lib.hid h
    have HX1 := Lib.hid hx1
    have HT := Lib.hid hT
    have HO := Lib.hid hok
    clear h hx1 hT hok hco
    have key : ∀ (k : Nat), (k : Int) = 65533 → ∀ n : Nat, n = (Pl.enc k).length → decide ((n : Int) ≤ 1) = false := by
      intro k hk n hn; rw [hn, bad_three hk]; decide
    by_cases hst : Pl.startsB c = true
    · by_cases hbad : (c : Int) = 65533
      · have b1 : ((c : Int) == 65533) = true := by simp [hbad]
        have b2 : decide (((Pl.enc c).length : Int) ≤ 1) = false := key c hbad _ rfl
        clear hbad key
        go_enter Tryf.func66, Tryf.ntmps66
        go_wp2_with (first | (go_at_call 73; (with_reducible refine (decS HH.out hcs HT.out).mono ?_); rintro e w' ⟨rfl, hb⟩) | (go_at_call 86; (with_reducible refine (isStart_any _ (by omega) (by omega) _).mono ?_); rintro e w' ⟨rfl, rfl⟩))
        go_ret
        exact ⟨ret_bool (by rw [HW.out, hst]; rfl), hb⟩
      · have b1 : ((c : Int) == 65533) = false := by simp [hbad]
        clear hbad key
        go_enter Tryf.func66, Tryf.ntmps66
        go_wp2_with (first | (go_at_call 73; (with_reducible refine (decS HH.out hcs HT.out).mono ?_); rintro e w' ⟨rfl, hb⟩) | (go_at_call 86; (with_reducible refine (isStart_any _ (by omega) (by omega) _).mono ?_); rintro e w' ⟨rfl, rfl⟩))
        go_ret
        exact ⟨ret_bool (by rw [HW.out, hst]; rfl), hb⟩
    · have hst : Pl.startsB c = false := by simpa using hst
      have hlow : c < 128 := by
        simp only [Pl.startsB, decide_eq_false_iff_not] at hst; omega
      have b1 : ((c : Int) == 65533) = false := by simp; omega
      have hn1 : (Pl.enc c).length = 1 := by rw [enc1 hlow]; rfl
      have HN1 := Lib.hid hn1
      clear hn1
      by_cases h45 : (c : Int) = 45
      · have b4 : ((c : Int) == 45) = true := by simp [h45]
        have H45 := Lib.hid h45
        clear h45
        cases t with
        | nil =>
          clear key
          go_enter Tryf.func66, Tryf.ntmps66
          go_wp2_with (first | (go_at_call 73; (with_reducible refine (decS HH.out hcs HT.out).mono ?_); rintro e w' ⟨rfl, hb⟩; have HB := Lib.hid hb) | (go_at_call 73; (with_reducible refine (decS0 HX1.out (HT.out.below HB.out)).mono ?_); rintro e w'' ⟨rfl, hb2⟩) | (go_at_call 86; (with_reducible refine (isStart_any _ (by omega) (by omega) _).mono ?_); rintro e w' ⟨rfl, rfl⟩))
          go_ret
          exact ⟨ret_bool (by rw [HW.out, hst]; simp [Pl.pk, Pl.startsB]), HB.out.trans (hb2.mono HB.out.size)⟩
        | cons d t =>
          have hdo := HO.out d (by simp)
          have hds : Pl.Sc d := hdo.1
          have hd1 : d ≤ 1114111 := by have := hds; unfold Pl.Sc at this; omega
          have hd0 : 0 < d := by have := hdo.2; omega
          have hdl := enc_len_le d
          have hdp := enc_len_pos d
          have fin : ∀ b, b = (Pl.startsB d || decide ((d : Int) = 45)) → b = Pl.wouldStart (c :: d :: t) := by
            intro b hb; rw [HW.out, hst, hb, Bool.false_or, decide_eq_true H45.out, Bool.true_and]; rfl
          have FIN := Lib.hid fin
          clear hdo fin
          by_cases hbad : (d : Int) = 65533
          · have b5 : ((d : Int) == 65533) = true := by simp [hbad]
            have b6 : decide (((Pl.enc d).length : Int) ≤ 1) = false := key d hbad _ rfl
            have hsd : Pl.startsB d = true := by simp only [Pl.startsB, decide_eq_true_eq]; omega
            clear hbad key
            go_enter Tryf.func66, Tryf.ntmps66
            go_wp2_with (first | (go_at_call 73; (with_reducible refine (decS HH.out hcs HT.out).mono ?_); rintro e w' ⟨rfl, hb⟩; have HB := Lib.hid hb) | (go_at_call 73; (with_reducible refine (decS HX1.out hds (HT.out.below HB.out)).mono ?_); rintro e w'' ⟨rfl, hb2⟩) | (go_at_call 86; (with_reducible refine (isStart_any _ (by omega) (by omega) _).mono ?_); rintro e w' ⟨rfl, rfl⟩))
            go_ret
            exact ⟨ret_bool (FIN.out _ (by rw [hsd]; rfl)), HB.out.trans (hb2.mono HB.out.size)⟩
          · have b5 : ((d : Int) == 65533) = false := by simp [hbad]
            clear hbad key
            by_cases hsd : Pl.startsB d = true
            · go_enter Tryf.func66, Tryf.ntmps66
              go_wp2_with (first | (go_at_call 73; (with_reducible refine (decS HH.out hcs HT.out).mono ?_); rintro e w' ⟨rfl, hb⟩; have HB := Lib.hid hb) | (go_at_call 73; (with_reducible refine (decS HX1.out hds (HT.out.below HB.out)).mono ?_); rintro e w'' ⟨rfl, hb2⟩) | (go_at_call 86; (with_reducible refine (isStart_any _ (by omega) (by omega) _).mono ?_); rintro e w' ⟨rfl, rfl⟩))
              go_ret
              exact ⟨ret_bool (FIN.out _ (by rw [hsd]; rfl)), HB.out.trans (hb2.mono HB.out.size)⟩
            · have hsd : Pl.startsB d = false := by simpa using hsd
              by_cases hd45 : (d : Int) = 45
              · have b7 : ((d : Int) == 45) = true := by simp [hd45]
                have HD := Lib.hid hd45
                clear hd45
                go_enter Tryf.func66, Tryf.ntmps66
                go_wp2_with (first | (go_at_call 73; (with_reducible refine (decS HH.out hcs HT.out).mono ?_); rintro e w' ⟨rfl, hb⟩; have HB := Lib.hid hb) | (go_at_call 73; (with_reducible refine (decS HX1.out hds (HT.out.below HB.out)).mono ?_); rintro e w'' ⟨rfl, hb2⟩) | (go_at_call 86; (with_reducible refine (isStart_any _ (by omega) (by omega) _).mono ?_); rintro e w' ⟨rfl, rfl⟩))
                go_ret
                exact ⟨ret_bool (FIN.out _ (by rw [hsd, HD.out]; rfl)), HB.out.trans (hb2.mono HB.out.size)⟩
              · have b7 : ((d : Int) == 45) = false := by simp [hd45]
                have HD := Lib.hid hd45
                clear hd45
                go_enter Tryf.func66, Tryf.ntmps66
                go_wp2_with (first | (go_at_call 73; (with_reducible refine (decS HH.out hcs HT.out).mono ?_); rintro e w' ⟨rfl, hb⟩; have HB := Lib.hid hb) | (go_at_call 73; (with_reducible refine (decS HX1.out hds (HT.out.below HB.out)).mono ?_); rintro e w'' ⟨rfl, hb2⟩) | (go_at_call 86; (with_reducible refine (isStart_any _ (by omega) (by omega) _).mono ?_); rintro e w' ⟨rfl, rfl⟩))
                go_ret
                exact ⟨ret_bool (FIN.out _ (by rw [hsd]; simp [HD.out])), HB.out.trans (hb2.mono HB.out.size)⟩
      · have b4 : ((c : Int) == 45) = false := by simp [h45]
        have H45 := Lib.hid h45
        clear h45 key
        go_enter Tryf.func66, Tryf.ntmps66
        go_wp2_with (first | (go_at_call 73; (with_reducible refine (decS HH.out hcs HT.out).mono ?_); rintro e w' ⟨rfl, hb⟩) | (go_at_call 86; (with_reducible refine (isStart_any _ (by omega) (by omega) _).mono ?_); rintro e w' ⟨rfl, rfl⟩))
        go_ret
        exact ⟨ret_bool (by rw [HW.out, hst]; simp [H45.out]), hb⟩
end Go.Proofs.YtmomkkakjkkakaaFmt
