/-
  WALKS of the statements on texts in quotes: a text in quotes is read as a string of this text: true at every text.
-/
import Derived.Test.YtmomkkakjkkakaaFmtZq
set_option linter.unusedVariables false
set_option linter.unusedSimpArgs false
set_option maxRecDepth 100000
namespace Go.Proofs.YtmomkkakjkkakaaFmt
open Go.RowKit Go.Kit Go.Extern.Stop Go.Stop Go.Extern

/-- the first and the last byte of a text in quotes -/
theorem quote_ends {q : Nat} {ascii : Bool} {r : List Nat} (hq : q = 34 ∨ q = 39) : ∃ m : Nat, (S (Pl.encs (Pl.quoteF ascii q r))).size = m + 1 ∧ (∀ h, ((S (Pl.encs (Pl.quoteF ascii q r)))[0]'h).toNat = q) ∧ (∀ h, ((S (Pl.encs (Pl.quoteF ascii q r)))[m]'h).toNat = q) := by
  have hb := quote_bytes ascii (q := q) (by omega) r
  have hp : preQ q = [UInt8.ofNat q] := by unfold preQ; rw [if_neg (by omega)]
  rw [hp] at hb
  refine ⟨(Pl.encs (Pl.innerF ascii q r)).length + 1, by rw [S_size, hb]; simp <;> omega, fun h => ?_, fun h => ?_⟩
  · have e := bt_eq h
    have e2 : bt (S (Pl.encs (Pl.quoteF ascii q r))) 0 = q := by unfold bt; rw [S_data, hb]; simp <;> omega
    omega
  · have e := bt_eq h
    have e2 : bt (S (Pl.encs (Pl.quoteF ascii q r))) ((Pl.encs (Pl.innerF ascii q r)).length + 1) = q := by
      unfold bt
      rw [S_data, hb, List.getD_eq_getElem?_getD, List.getElem?_append_right (by simp)]
      simp <;> omega
    omega
set_option maxHeartbeats 4000000 in
theorem fnQuotedByIsRead_walk {F : Interp} (s : ByteArray) (double ascii : Bool) (w : World) (hs : s.size ≤ 9223372036854775807) (hT : Tabs w) (hO : Folds w) (hF : F.told.answers w.tape) :
    Calls Tryf.prog 8 #[.string s, .bool double, .bool ascii] w fun e w' => e = .returned (.bool true) ∧ Below w.heap.size w w' := by
  by_cases h1 : 2147483647 < s.size
  · go_enter Tryf.func8, Tryf.ntmps8
    go_wp2_with fail
    go_ret
    exact ⟨rfl, Below.refl _ _⟩
  have hxs : (⟨#[120]⟩ ++ s : ByteArray).size = 1 + s.size := by rw [ByteArray.size_append]; rfl
  rcases plain_det (s := s) (by omega) with ⟨r, rfl, hok, hP⟩ | hP
  · have hsz : (S (Pl.encs r)).size = (Pl.encs r).length := S_size _
    rcases low_det (r := r) (ascii := ascii) hok (by omega) with ⟨hlow, hL⟩ | hL
    · cases double with
      | false =>
        have hl := quote_size (q := 39) (ascii := ascii) (r := r) (by simp) hok
        have HI := Lib.hid (show Calls Tryf.prog 22 #[.string (S (Pl.encs r)), .int .u8 39, .bool ascii] w fun e w' => e = .returned (.string (S (Pl.encs (Pl.quoteF ascii 39 r)))) ∧ Below w.heap.size w w' from by_any (q := 39) (by simp) (Str.of r) hok (by omega) hT hO hF)
        have HO := Lib.hid (fun W => quote_only (q := 39) (ascii := ascii) (by simp) hok hlow (by omega) W)
        have HFt := Lib.hid (fun W => fits_any (ascii := ascii) W (by rw [S_size]; omega) (Str.of (Pl.quoteF ascii 39 r)) (by rintro rfl; exact Pl.quote_low (by simp) hok))
        obtain ⟨m, hm, hq0, hqm⟩ := quote_ends (q := 39) (ascii := ascii) (r := r) (by simp)
        have hm2 : m ≤ 17179869190 := by have : (S (Pl.encs (Pl.quoteF ascii 39 r))).size = _ := S_size _; omega
        obtain ⟨Tx, hTx⟩ : ∃ Tx, S (Pl.encs (Pl.quoteF ascii 39 r)) = Tx := ⟨_, rfl⟩
        rw [hTx] at hm
        simp only [hTx] at hq0 hqm HI HO HFt
        have h0x : 0 < Tx.size := by omega
        have hmx : m < Tx.size := by omega
        have q0 : ((Tx[0].toNat : Int) == 39) = true := by rw [hq0 h0x]; rfl
        have qm : ((Tx[m].toNat : Int) == 39) = true := by rw [hqm hmx]; rfl
        clear hl hT hO hF hlow hTx hq0 hqm hok
        go_enter Tryf.func8, Tryf.ntmps8
        go_wp2_with (first
          | (go_at_call 20; (with_reducible refine (hP _).mono ?_); rintro e w' ⟨rfl, rfl⟩)
          | (go_at_call 21; (with_reducible refine (hL _).mono ?_); rintro e w' ⟨rfl, rfl⟩)
          | (go_at_call 22; (with_reducible refine HI.out.mono ?_); rintro e w1 ⟨rfl, hb1⟩; have HB1 := Lib.hid hb1; clear hb1)
          | (go_at_call 16; (with_reducible refine (HO.out _).mono ?_); rintro e w2 ⟨⟨a, c, i, rfl⟩, hb2⟩; have HB2 := Lib.hid hb2; clear hb2)
          | (go_at_call 17; (with_reducible refine (HFt.out _).mono ?_); rintro e w' ⟨rfl, rfl⟩))
        go_ret
        have hb := HB1.out.trans (HB2.out.mono HB1.out.size)
        exact ⟨by simp, hb.alloc hb.size _⟩
      | true =>
        have hl := quote_size (q := 34) (ascii := ascii) (r := r) (by simp) hok
        have HI := Lib.hid (show Calls Tryf.prog 22 #[.string (S (Pl.encs r)), .int .u8 34, .bool ascii] w fun e w' => e = .returned (.string (S (Pl.encs (Pl.quoteF ascii 34 r)))) ∧ Below w.heap.size w w' from by_any (q := 34) (by simp) (Str.of r) hok (by omega) hT hO hF)
        have HO := Lib.hid (fun W => quote_only (q := 34) (ascii := ascii) (by simp) hok hlow (by omega) W)
        have HFt := Lib.hid (fun W => fits_any (ascii := ascii) W (by rw [S_size]; omega) (Str.of (Pl.quoteF ascii 34 r)) (by rintro rfl; exact Pl.quote_low (by simp) hok))
        obtain ⟨m, hm, hq0, hqm⟩ := quote_ends (q := 34) (ascii := ascii) (r := r) (by simp)
        have hm2 : m ≤ 17179869190 := by have : (S (Pl.encs (Pl.quoteF ascii 34 r))).size = _ := S_size _; omega
        obtain ⟨Tx, hTx⟩ : ∃ Tx, S (Pl.encs (Pl.quoteF ascii 34 r)) = Tx := ⟨_, rfl⟩
        rw [hTx] at hm
        simp only [hTx] at hq0 hqm HI HO HFt
        have h0x : 0 < Tx.size := by omega
        have hmx : m < Tx.size := by omega
        have q0 : ((Tx[0].toNat : Int) == 34) = true := by rw [hq0 h0x]; rfl
        have qm : ((Tx[m].toNat : Int) == 34) = true := by rw [hqm hmx]; rfl
        clear hl hT hO hF hlow hTx hq0 hqm hok
        go_enter Tryf.func8, Tryf.ntmps8
        go_wp2_with (first
          | (go_at_call 20; (with_reducible refine (hP _).mono ?_); rintro e w' ⟨rfl, rfl⟩)
          | (go_at_call 21; (with_reducible refine (hL _).mono ?_); rintro e w' ⟨rfl, rfl⟩)
          | (go_at_call 22; (with_reducible refine HI.out.mono ?_); rintro e w1 ⟨rfl, hb1⟩; have HB1 := Lib.hid hb1; clear hb1)
          | (go_at_call 16; (with_reducible refine (HO.out _).mono ?_); rintro e w2 ⟨⟨a, c, i, rfl⟩, hb2⟩; have HB2 := Lib.hid hb2; clear hb2)
          | (go_at_call 17; (with_reducible refine (HFt.out _).mono ?_); rintro e w' ⟨rfl, rfl⟩))
        go_ret
        have hb := HB1.out.trans (HB2.out.mono HB1.out.size)
        exact ⟨by simp, hb.alloc hb.size _⟩
    · go_enter Tryf.func8, Tryf.ntmps8
      go_wp2_with (first
        | (go_at_call 20; (with_reducible refine (hP _).mono ?_); rintro e w' ⟨rfl, rfl⟩)
        | (go_at_call 21; (with_reducible refine (hL _).mono ?_); rintro e w' ⟨rfl, rfl⟩))
      go_ret
      exact ⟨rfl, Below.refl _ _⟩
  · go_enter Tryf.func8, Tryf.ntmps8
    go_wp2_with (go_at_call 20; (with_reducible refine (hP _).mono ?_); rintro e w' ⟨rfl, rfl⟩)
    go_ret
    exact ⟨rfl, Below.refl _ _⟩
set_option maxHeartbeats 4000000 in
theorem fnQuotedIsRead_walk {F : Interp} (s : ByteArray) (ascii : Bool) (w : World) (hs : s.size ≤ 9223372036854775807) (hT : Tabs w) (hO : Folds w) (hF : F.told.answers w.tape) :
    Calls Tryf.prog 10 #[.string s, .bool ascii] w fun e w' => e = .returned (.bool true) ∧ Below w.heap.size w w' := by
  by_cases h1 : 2147483647 < s.size
  · go_enter Tryf.func10, Tryf.ntmps10
    go_wp2_with fail
    go_ret
    exact ⟨rfl, Below.refl _ _⟩
  have hxs : (⟨#[120]⟩ ++ s : ByteArray).size = 1 + s.size := by rw [ByteArray.size_append]; rfl
  rcases plain_det (s := s) (by omega) with ⟨r, rfl, hok, hP⟩ | hP
  · have hsz : (S (Pl.encs r)).size = (Pl.encs r).length := S_size _
    rcases low_det (r := r) (ascii := ascii) hok (by omega) with ⟨hlow, hL⟩ | hL
    · have hbq := bestF_two r
      have hl := quote_size (q := Pl.bestF false r) (ascii := ascii) (r := r) hbq hok
      have HI := Lib.hid (q_any (ascii := ascii) (Str.of r) hok (by omega) hT hO hF)
      have HO := Lib.hid (fun W => quote_only (q := Pl.bestF false r) (ascii := ascii) hbq hok hlow (by omega) W)
      have HFt := Lib.hid (fun W => fits_any (ascii := ascii) W (by rw [S_size]; omega) (Str.of (Pl.quoteF ascii (Pl.bestF false r) r)) (by rintro rfl; exact Pl.quote_low hbq hok))
      clear hl hT hO hF hlow hok hbq
      go_enter Tryf.func10, Tryf.ntmps10
      go_wp2_with (first
        | (go_at_call 20; (with_reducible refine (hP _).mono ?_); rintro e w' ⟨rfl, rfl⟩)
        | (go_at_call 21; (with_reducible refine (hL _).mono ?_); rintro e w' ⟨rfl, rfl⟩)
        | (go_at_call 24; (with_reducible refine HI.out.mono ?_); rintro e w1 ⟨rfl, hb1⟩; have HB1 := Lib.hid hb1; clear hb1)
        | (go_at_call 16; (with_reducible refine (HO.out _).mono ?_); rintro e w2 ⟨⟨a, c, i, rfl⟩, hb2⟩; have HB2 := Lib.hid hb2; clear hb2)
        | (go_at_call 17; (with_reducible refine (HFt.out _).mono ?_); rintro e w' ⟨rfl, rfl⟩))
      go_ret
      have hb := HB1.out.trans (HB2.out.mono HB1.out.size)
      exact ⟨by simp, hb.alloc hb.size _⟩
    · go_enter Tryf.func10, Tryf.ntmps10
      go_wp2_with (first
        | (go_at_call 20; (with_reducible refine (hP _).mono ?_); rintro e w' ⟨rfl, rfl⟩)
        | (go_at_call 21; (with_reducible refine (hL _).mono ?_); rintro e w' ⟨rfl, rfl⟩))
      go_ret
      exact ⟨rfl, Below.refl _ _⟩
  · go_enter Tryf.func10, Tryf.ntmps10
    go_wp2_with (go_at_call 20; (with_reducible refine (hP _).mono ?_); rintro e w' ⟨rfl, rfl⟩)
    go_ret
    exact ⟨rfl, Below.refl _ _⟩
end Go.Proofs.YtmomkkakjkkakaaFmt
