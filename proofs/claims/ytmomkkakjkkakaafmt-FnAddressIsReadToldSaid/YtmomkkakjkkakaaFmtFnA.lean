/-
  WALK of the statement on addresses: true at every text.
-/
import Derived.Test.YtmomkkakjkkakaaFmtZq
import Derived.Test.YtmomkkakjkkakaaFmtUrlB
set_option linter.unusedVariables false
set_option linter.unusedSimpArgs false
set_option maxRecDepth 100000
namespace Go.Proofs.YtmomkkakjkkakaaFmt
open Go.RowKit Go.Kit Go.Extern.Stop Go.Stop Go.Extern

/-! ## plain facts -/
theorem addr_bytes (ascii : Bool) (q : Nat) (r : List Nat) : Pl.encs (Pl.addrF ascii q r) = [117, 114, 108, 40] ++ Pl.encs (Pl.quoteF ascii q r) ++ [41] := by
  unfold Pl.addrF
  rw [Pl.encs_cons, Pl.encs_cons, Pl.encs_cons, Pl.encs_cons, Pl.encs_append, Pl.encs_cons, Pl.encs_nil, enc1 (by omega), enc1 (by omega), enc1 (by omega), enc1 (by omega), enc1 (by omega)]
  rfl
theorem addr_quote_ok {q : Nat} {ascii : Bool} {r : List Nat} (hq : q = 0 ∨ q = 34 ∨ q = 39) (hok : ∀ c ∈ r, Pl.Ok c) : ∀ c ∈ Pl.quoteF ascii q r, Pl.Ok c := by
  rcases hq with rfl | h
  · exact Pl.inner_ok hok
  · exact Pl.quote_ok h hok
theorem addr_quote_low {q : Nat} {r : List Nat} (hq : q = 0 ∨ q = 34 ∨ q = 39) (hok : ∀ c ∈ r, Pl.Ok c) : ∀ c ∈ Pl.quoteF true q r, c < 128 := by
  rcases hq with rfl | h
  · exact Pl.inner_low (by omega) hok
  · exact Pl.quote_low h hok
theorem addr_ok {q : Nat} {ascii : Bool} {r : List Nat} (hq : q = 0 ∨ q = 34 ∨ q = 39) (hok : ∀ c ∈ r, Pl.Ok c) : ∀ c ∈ Pl.addrF ascii q r, Pl.Ok c := by
  intro c hc
  simp only [Pl.addrF, List.mem_cons, List.mem_append, List.mem_nil_iff, or_false] at hc
  rcases hc with rfl | rfl | rfl | rfl | hc | rfl
  · decide
  · decide
  · decide
  · decide
  · exact addr_quote_ok hq hok c hc
  · decide
theorem addr_low {q : Nat} {r : List Nat} (hq : q = 0 ∨ q = 34 ∨ q = 39) (hok : ∀ c ∈ r, Pl.Ok c) : ∀ c ∈ Pl.addrF true q r, c < 128 := by
  intro c hc
  simp only [Pl.addrF, List.mem_cons, List.mem_append, List.mem_nil_iff, or_false] at hc
  rcases hc with rfl | rfl | rfl | rfl | hc | rfl
  · decide
  · decide
  · decide
  · decide
  · exact addr_quote_low hq hok c hc
  · decide
theorem addr_quote_size {q : Nat} {ascii : Bool} {r : List Nat} (hq : q = 0 ∨ q = 34 ∨ q = 39) (hok : ∀ c ∈ r, Pl.Ok c) : (Pl.encs (Pl.quoteF ascii q r)).length ≤ 8 * (Pl.encs r).length + 2 := by
  rcases hq with rfl | h
  · have h := out_len (Pl.qItems ascii 0 none r) false (Pl.qItems_good hok)
    have h2 := encs_len_ge r
    have h3 := congrArg List.length (Pl.qItems_fst ascii 0 none r)
    rw [List.length_map] at h3
    have h4 : Pl.quoteF ascii 0 r = Pl.outF (Pl.qItems ascii 0 none r) false := rfl
    rw [h4]
    omega
  · exact quote_size h hok
theorem addr_size {q : Nat} {ascii : Bool} {r : List Nat} (hq : q = 0 ∨ q = 34 ∨ q = 39) (hok : ∀ c ∈ r, Pl.Ok c) : (Pl.encs (Pl.addrF ascii q r)).length ≤ 8 * (Pl.encs r).length + 7 := by
  have := addr_quote_size (ascii := ascii) hq hok
  rw [addr_bytes, List.length_append, List.length_append]
  simp only [List.length_cons, List.length_nil]
  omega
theorem unp_of {r : List Nat} (h : ∀ b ∈ Pl.encs r, Pl.unpB (b.toNat : Int) = false) : ∀ c ∈ r, Pl.unpB (c : Int) = false := by
  intro c hc
  by_cases g : c < 128
  · have hb : UInt8.ofNat c ∈ Pl.enc c := by rw [enc1 g]; simp
    have := h _ (List.mem_flatMap.mpr ⟨c, hc, hb⟩)
    rwa [show (UInt8.ofNat c).toNat = c by simp; omega] at this
  · unfold Pl.unpB
    exact decide_eq_false (by omega)

/-! ## the statement's small functions -/
theorem printable_any {x : ByteArray} (w : World) (hs : x.size ≤ 1099511627776) :
    Calls Tryf.prog 26 #[.string x] w fun e w' => (∃ b : Bool, e = .returned (.bool b) ∧ (b = true ↔ ∀ j, j < x.size → Pl.unpB (bt x j : Int) = false)) ∧ w = w' := by
  go_enter Tryf.func26, Tryf.ntmps26
  go_wp2_with fail
  go_loopg [6] x.size (fun k iv wr => ∃ j : Nat, k = x.size - j ∧ j ≤ x.size ∧ iv = .int .i64 j ∧ w = wr ∧ Hid (∀ i, i < j → Pl.unpB (bt x i : Int) = false))
  case atStart => exact ⟨0, rfl, Nat.zero_le _, rfl, rfl, Lib.hid (fun i h => absurd h (Nat.not_lt_zero i))⟩
  case round =>
    obtain ⟨j, rfl, hj, rfl, rfl, HD⟩ := hrel
    by_cases hlt : j < x.size
    · have hl : (j : Int) < (x.size : Int) := by omega
      have hbj := bt_eq hlt
      have hm : (x[j].toNat : Int) < 256 := by have := bt_lt x j; omega
      cases hb : Pl.unpB (bt x j : Int) with
      | false =>
        have hb2 : Pl.unpB (x[j].toNat : Int) = false := by rw [hbj]; exact hb
        have HB2 := Lib.hid hb2
        have HD2 := Lib.hid (show ∀ i, i < j + 1 → Pl.unpB (bt x i : Int) = false from fun i hi => by
          rcases Nat.lt_or_ge i j with q | q
          · exact HD.out i q
          · obtain rfl : i = j := by omega
            exact hb)
        clear hb hb2 hbj HD
        go_wp2_with (go_at_call 41; refine (isUnprintable_any _ _).mono ?_; rintro e w' ⟨rfl, rfl⟩; rw [HB2.out])
        go_roundg (x.size - (j + 1))
        case measure => omega
        case rel => exact ⟨j + 1, rfl, hlt, by simp, rfl, HD2⟩
      | true =>
        have hb2 : Pl.unpB (x[j].toNat : Int) = true := by rw [hbj]; exact hb
        have HB2 := Lib.hid hb2
        have HN := Lib.hid (show ¬ ∀ i, i < x.size → Pl.unpB (bt x i : Int) = false from fun h => by have := h j hlt; rw [hb] at this; cases this)
        clear hb hb2 hbj HD
        go_wp2_with (go_at_call 41; refine (isUnprintable_any _ _).mono ?_; rintro e w' ⟨rfl, rfl⟩; rw [HB2.out])
        go_ret
        exact ⟨⟨false, rfl, ⟨fun e => (by cases e), fun h => (HN.out h).elim⟩⟩, rfl⟩
    · obtain rfl : x.size = j := by omega
      go_wp2_with fail
      go_ret
      exact ⟨⟨true, rfl, ⟨fun _ => HD.out, fun _ => rfl⟩⟩, rfl⟩
theorem printable_det {r : List Nat} (hs : (Pl.encs r).length ≤ 1099511627776) :
    ((∀ c ∈ r, Pl.unpB (c : Int) = false) ∧ ∀ w, Calls Tryf.prog 26 #[.string (S (Pl.encs r))] w fun e w' => e = .returned (.bool true) ∧ w = w') ∨
    ∀ w, Calls Tryf.prog 26 #[.string (S (Pl.encs r))] w fun e w' => e = .returned (.bool false) ∧ w = w' := by
  have hsz : (S (Pl.encs r)).size ≤ 1099511627776 := by rw [S_size]; exact hs
  by_cases h : ∀ j, j < (S (Pl.encs r)).size → Pl.unpB (bt (S (Pl.encs r)) j : Int) = false
  · refine .inl ⟨unp_of fun b hb => ?_, fun w => (printable_any w hsz).mono ?_⟩
    · obtain ⟨j, hj, e⟩ := bt_mem (x := S (Pl.encs r)) (b := b) (by rw [S_data]; exact hb)
      rw [← e]; exact h j hj
    · rintro e w' ⟨⟨b, rfl, hb⟩, rfl⟩
      obtain rfl := hb.2 h
      exact ⟨rfl, rfl⟩
  · refine .inr fun w => (printable_any w hsz).mono ?_
    rintro e w' ⟨⟨b, rfl, hb⟩, rfl⟩
    obtain rfl : b = false := by
      cases b with
      | false => rfl
      | true => exact absurd (hb.1 rfl) h
    exact ⟨rfl, rfl⟩
theorem IsURL_S (l : List UInt8) (w : World) (hs : l.length ≤ 4398046511104) : Calls Tryf.prog 29 #[.string (S l)] w fun e w' => e = .returned (.bool (Pl.isUrlB l)) ∧ w = w' := by
  have HC := Lib.hid (isURL_S l w hs)
  generalize Pl.isUrlB l = b at *
  go_enter Tryf.func29, Tryf.ntmps29
  go_wp2_with (go_at_call 45; (with_reducible refine HC.out.mono ?_); rintro e w' ⟨rfl, rfl⟩)
  go_ret
  exact ⟨rfl, rfl⟩

/-! ## printing -/
set_option maxHeartbeats 4000000 in
theorem print_any {w : World} {B : Nat} {ascii : Bool} {v : Value} {d : List UInt8} {x : ByteArray} (hP : Pr w B ascii v d) (hd : d.length ≤ 35184372088832) (hx : 0 < x.size) (hs : x.size ≤ 1099511627776) :
    Calls Tryf.prog 53 #[.pointer (some ⟨B, 0, none⟩), .string x] w fun e w' => PrOut B ascii w (d ++ x.data.toList) e w' := by
  have c15 := hP.css
  have f15 := hP.free 15
  have hB := hP.lt
  have HP := Lib.hid hP
  obtain ⟨i0, hi, hz0, hz1, hz2⟩ := info_parts infoByte
  clear hP
  go_enter Tryf.func53, Tryf.ntmps53
  go_wp2_with (at_builtin; refine Lib.wpList_append_own_string _ rfl _ _ 31 9 rfl (B + 1) 5 i0 Tryf.underlying31 Tryf.underlying9 hi hz0 hz1 hz2 _ d.length (Lib.byteCells d) rfl HP.out.own x rfl (by unfold maxLen; omega) (by omega) (by omega) ?grow)
  case grow =>
    intro v3 w3 hown3 hgrow3 _
    obtain ⟨g, cap, hv3, _, _⟩ := hown3.form (Nat.add_pos_right _ hx)
    rw [hv3] at hown3 ⊢
    obtain ⟨c3, f3⟩ := HP.out.kept hgrow3
    have HP3 := Lib.hid (HP.out.app (x := x.data.toList) hgrow3 hown3 (by rw [List.length_append, Array.length_toList]; rfl) (by rw [Lib.byteCells_append]; rfl))
    have HK3 := Lib.hid (HP.out.kp hgrow3 (.slice (some ⟨g, 0, none⟩) (d.length + x.size) cap))
    go_wp2_with fail
    first | go_end0 | go_ret | go_ret3
    exact ⟨rfl, ⟨_, HP3.out⟩, HK3.out⟩
set_option maxHeartbeats 4000000 in
theorem zzad_any {F : Interp} {w : World} {x : ByteArray} {r : List Nat} {ascii : Bool} (hx : Str x r) (hok : ∀ c ∈ r, Pl.Ok c) (hs : x.size ≤ 1099511627776) (hT : Tabs w) (hO : Folds w) (hF : F.told.answers w.tape) :
    Calls Tryf.prog 42 #[.string x, .bool ascii] w fun e w' => e = .returned (.string (S (Pl.encs (Pl.addrF ascii (Pl.bestF true r) r)))) ∧ Below w.heap.size w w' := by
  have HP0 := Lib.hid (print_any (x := ⟨#[117, 114, 108, 40]⟩) (new_pr w ascii) (by simp) (by decide) (by decide))
  have HB := Lib.hid (show Below w.heap.size w (w.alloc (blank ascii)) from (Below.refl _ w).alloc (Nat.le_refl _) _)
  have HBq := Lib.hid (fun W => best_any (w := W) true hx hok hs)
  have HC := Lib.hid (fun (W : World) (v : Value) (d : List UInt8) (hP : Pr W w.heap.size ascii v d) (hd : d.length ≤ 1099511627776) (hb : Below w.heap.size w W) =>
    pqw_any hP hd (q := Pl.bestF true r) (bestF_cases true r) hx hok hs (fun W' h => hT.below (hb.trans h)) (fun W' h => hO.below (hb.trans h)) (show F.told.answers W.tape from by rw [hb.tape]; exact hF))
  have HPR := Lib.hid (fun (W : World) (v : Value) (d : List UInt8) (hP : Pr W w.heap.size ascii v d) (hd : d.length ≤ 35184372088832) => print_any (x := ⟨#[41]⟩) hP hd (by decide) (by decide))
  have hql := addr_quote_size (ascii := ascii) (bestF_cases true r) hok
  have hxl := hx.size
  have HL := Lib.hid (show ([] ++ [117, 114, 108, 40] ++ Pl.encs (Pl.quoteF ascii (Pl.bestF true r) r)).length ≤ 35184372088832 from by
    rw [List.length_append]; simp only [List.length_append, List.length_cons, List.length_nil]; omega)
  have HE := Lib.hid (show [] ++ [117, 114, 108, 40] ++ Pl.encs (Pl.quoteF ascii (Pl.bestF true r) r) ++ [41] = Pl.encs (Pl.addrF ascii (Pl.bestF true r) r) from (addr_bytes _ _ _).symm)
  clear hx hok hT hO hF hql hxl
  go_enter Tryf.func42, Tryf.ntmps42
  have hp0 := HP0.out
  have hb0 := HB.out
  unfold blank at hp0 hb0
  have HP1 := Lib.hid hp0
  have HB1 := Lib.hid hb0
  clear hp0 hb0 HP0 HB
  go_wp2_with (first
    | (go_at_call 53; (first
        | ((with_reducible refine HP1.out.mono ?_); rintro e w2 ⟨rfl, ⟨u2, hp2⟩, hk2⟩; have HP2 := Lib.hid hp2; have HB2 := Lib.hid (HB1.out.trans hk2.below); clear hp2 hk2)
        | ((with_reducible refine (HPR.out _ _ _ HP4.out HL.out).mono ?_); rintro e w5 ⟨rfl, ⟨u5, hp5⟩, hk5⟩; have hp6 := hp5; rw [HE.out] at hp6; have hcv := conv_own hp6.own; have c5 := hp6.css; have HB5 := Lib.hid (HB4.out.trans hk5.below); clear hp5 hp6 hk5)))
    | (go_at_call 54; (with_reducible refine (HBq.out _).mono ?_); rintro e w3 ⟨rfl, hb3⟩; have HP3 := Lib.hid (HP2.out.keep hb3); have HB3 := Lib.hid (HB2.out.trans (hb3.mono HB2.out.size)); clear hb3)
    | (go_at_call 49; (with_reducible refine (HC.out _ _ _ HP3.out (by simp) HB3.out).mono ?_); rintro e w4 ⟨rfl, ⟨u4, hp4⟩, hk4⟩; have HP4 := Lib.hid hp4; have HB4 := Lib.hid (HB3.out.trans hk4.below); clear hp4 hk4))
  go_ret
  exact ⟨rfl, HB5.out⟩
theorem ad_any {F : Interp} {w : World} {x : ByteArray} {r : List Nat} {ascii : Bool} (hx : Str x r) (hok : ∀ c ∈ r, Pl.Ok c) (hs : x.size ≤ 1099511627776) (hT : Tabs w) (hO : Folds w) (hF : F.told.answers w.tape) :
    Calls Tryf.prog 27 #[.string x, .bool ascii] w fun e w' => e = .returned (.string (S (Pl.encs (Pl.addrF ascii (Pl.bestF true r) r)))) ∧ Below w.heap.size w w' := by
  have HC := Lib.hid (zzad_any (ascii := ascii) hx hok hs hT hO hF)
  clear hx hok hT hO hF
  go_enter Tryf.func27, Tryf.ntmps27
  go_wp2_with (go_at_call 42; (with_reducible refine HC.out.mono ?_); rintro e w5 ⟨rfl, hb⟩)
  go_ret
  exact ⟨rfl, hb⟩

/-! ## the tokens -/
/-- Tokens where there are three -/
structure ThreeOut (t1 t2 t3 : Pl.Tok) (w : World) (e : Ending) (w' : World) : Prop where
  out : ∃ g cap co cc, e = .returned (.tuple #[.slice (some ⟨g, 0, none⟩) 3 cap, .slice co 0 cc, .bool false]) ∧ ∀ j u, (tokCells t1 ++ (tokCells t2 ++ tokCells t3))[j]? = some u → w'.cell? ⟨g, j, none⟩ = some u
  below : Below w.heap.size w w'
theorem toks_three_any {s : ByteArray} {r : List Nat} {t1 t2 t3 : Pl.Tok} (w : World) (hr : s.data.toList = Pl.encs r) (hok : ∀ c ∈ r, Pl.Ok c) (hs : s.size ≤ 1099511627776) (ht : Pl.toksF r = ([t1, t2, t3], 0, false)) :
    Calls Tryf.prog 28 #[.string s] w fun e w' => ThreeOut t1 t2 t3 w e w' := by
  refine (Tokens_all s r w hr hok hs).mono fun e w' ⟨⟨v, c, cs, he, ho, hc⟩, hb⟩ => ?_
  rw [ht] at he ho hc
  simp only [List.length_cons, List.length_nil, List.flatMap_cons, List.flatMap_nil, List.append_nil] at he ho hc
  obtain ⟨co, cc, rfl⟩ := own_form hc
  rcases ho.2 with ⟨_, h0⟩ | ⟨g, cap, cur, rfl, _, hg, _, _, hsz, htk⟩
  · omega
  · have cell : ∀ j u, (tokCells t1 ++ (tokCells t2 ++ tokCells t3))[j]? = some u → w'.cell? ⟨g, j, none⟩ = some u := by
      intro j u hu
      rw [cell_of_row w' g j cur _ (0, 0) hg]
      rw [← htk, List.getElem?_take] at hu
      split at hu
      · simpa using hu
      · cases hu
    exact ⟨⟨g, cap, co, cc, he, cell⟩, hb⟩

/-! ## the statement -/
theorem addr_plain {R : List Nat} (hok : ∀ c ∈ R, Pl.Ok c) (hb : R.head? ≠ some 65279) (hs : (Pl.encs R).length ≤ 1099511627776) (W : World) :
    Calls Tryf.prog 20 #[.string (S (Pl.encs R))] W fun e w' => e = .returned (.bool true) ∧ W = w' := by
  refine (IsPlain_any _ W (by rw [S_size]; exact hs)).mono ?_
  rintro e w' ⟨⟨b, rfl, h⟩, rfl⟩
  obtain rfl := h.2 ⟨R, ⟨S_data _, hok, hb⟩⟩
  exact ⟨rfl, rfl⟩
set_option maxHeartbeats 8000000 in
theorem fnAddressIsRead_walk {F : Interp} (s : ByteArray) (ascii : Bool) (w : World) (hs : s.size ≤ 9223372036854775807) (hT : Tabs w) (hO : Folds w) (hF : F.told.answers w.tape) :
    Calls Tryf.prog 11 #[.string s, .bool ascii] w fun e w' => e = .returned (.bool true) ∧ Below w.heap.size w w' := by
  by_cases h1 : 2147483647 < s.size
  · go_enter Tryf.func11, Tryf.ntmps11
    go_wp2_with fail
    go_ret
    exact ⟨rfl, Below.refl _ _⟩
  have hxs : (⟨#[120]⟩ ++ s : ByteArray).size = 1 + s.size := by rw [ByteArray.size_append]; rfl
  rcases plain_det (s := s) (by omega) with ⟨r, rfl, hok, hP⟩ | hP
  · have hsz : (S (Pl.encs r)).size = (Pl.encs r).length := S_size _
    have HTr := Lib.hid (fun W => Trimmed_S (Pl.encs r) W (by omega))
    cases htr : Pl.trimB (Pl.encs r) with
    | false =>
      rw [htr] at HTr
      clear htr
      go_enter Tryf.func11, Tryf.ntmps11
      go_wp2_with (first
        | (go_at_call 20; (with_reducible refine (hP _).mono ?_); rintro e w' ⟨rfl, rfl⟩)
        | (go_at_call 25; (with_reducible refine (HTr.out _).mono ?_); rintro e w' ⟨rfl, rfl⟩))
      go_ret
      exact ⟨rfl, Below.refl _ _⟩
    | true =>
      rw [htr] at HTr
      have HTM := Lib.hid htr
      clear htr
      rcases printable_det (r := r) (by omega) with ⟨hpr, hPr⟩ | hPr
      · rcases low_det (r := r) (ascii := ascii) hok (by omega) with ⟨hlow, hL⟩ | hL
        · have hbq := bestF_cases true r
          have hl := addr_size (ascii := ascii) hbq hok
          have HI := Lib.hid (ad_any (ascii := ascii) (Str.of r) hok (by omega) hT hO hF)
          have HPl := Lib.hid (fun W => addr_plain (R := Pl.addrF ascii (Pl.bestF true r) r) (addr_ok hbq hok) (by simp [Pl.addrF]) (by omega) W)
          have HFt := Lib.hid (fun W => fits_any (ascii := ascii) W (by rw [S_size]; omega) (Str.of (Pl.addrF ascii (Pl.bestF true r) r)) (by rintro rfl; exact addr_low hbq hok))
          have HTx := Lib.hid (S_size (Pl.encs (Pl.addrF ascii (Pl.bestF true r) r)))
          rcases (show Pl.bestF true r = 0 ∨ (Pl.bestF true r = 34 ∨ Pl.bestF true r = 39) from hbq) with h0 | h0
          · rw [h0] at HI HPl HFt HTx hl
            have ht := Pl.toks_one (R := Pl.addrF ascii 0 r) (by rw [Pl.addrF, Pl.pk_cons]; decide) (show (37 : Nat) ≠ 0 by decide) (Pl.addr_url rfl hok hlow hpr HTM.out)
            have HTk := Lib.hid (fun W => toks_one_any W (S_data (Pl.encs (Pl.addrF ascii 0 r))) (addr_ok (.inl rfl) hok) (by rw [S_size]; omega) ht)
            clear ht hl hT hO hF hlow hok hbq hpr h0 HTM
            generalize S (Pl.encs (Pl.addrF ascii 0 r)) = T at *
            go_enter Tryf.func11, Tryf.ntmps11
            go_wp2_with (first
              | (go_at_call 20; (first | (with_reducible refine (hP _).mono ?_) | (with_reducible refine (HPl.out _).mono ?_)); rintro e w' ⟨rfl, rfl⟩)
              | (go_at_call 25; (with_reducible refine (HTr.out _).mono ?_); rintro e w' ⟨rfl, rfl⟩)
              | (go_at_call 26; (with_reducible refine (hPr _).mono ?_); rintro e w' ⟨rfl, rfl⟩)
              | (go_at_call 21; (with_reducible refine (hL _).mono ?_); rintro e w' ⟨rfl, rfl⟩)
              | (go_at_call 27; (with_reducible refine HI.out.mono ?_); rintro e w1 ⟨rfl, hb1⟩; have HB1 := Lib.hid hb1; clear hb1)
              | (go_at_call 17; (with_reducible refine (HFt.out _).mono ?_); rintro e w' ⟨rfl, rfl⟩)
              | (go_at_call 28; (with_reducible refine (HTk.out _).mono ?_); rintro e w2 ⟨⟨g, cap, co, cc, rfl, c0, c1, c2, c3, c4, c5⟩, hb2⟩; have HB2 := Lib.hid (HB1.out.trans (hb2.mono HB1.out.size)); clear hb2))
            go_ret
            exact ⟨by simp, HB2.out⟩
          · generalize Pl.bestF true r = q at *
            have hl2 := Pl.quote_tok (ascii := ascii) (Y := [41]) (T := (Pl.encs (Pl.addrF ascii q r)).length) h0 hok hlow
            have hh : Pl.quoteF ascii q r ++ [41] = q :: (Pl.innerF ascii q r ++ [q] ++ [41]) := by unfold Pl.quoteF; rw [if_neg (by omega)]; simp
            obtain ⟨a1, b1, a2, b2, a3, b3, ht⟩ := Pl.toks_three (R := Pl.addrF ascii q r) (R1 := Pl.quoteF ascii q r ++ [41]) (R2 := [41]) rfl (by rw [Pl.addrF, Pl.pk_cons]; decide) (by rw [hh, Pl.pk_cons]; omega) (by rw [Pl.pk_cons]; decide)
              (show (27 : Nat) ≠ 0 by decide) (show (36 : Nat) ≠ 0 by decide) (show (8 : Nat) ≠ 0 by decide) (by simp [Pl.addrF]) (Pl.addr_fun h0) hl2 Pl.close_tok
            have HTk := Lib.hid (fun W => toks_three_any W (S_data (Pl.encs (Pl.addrF ascii q r))) (addr_ok (.inr h0) hok) (by rw [S_size]; omega) ht)
            have HU := Lib.hid (fun W => (show Calls Tryf.prog 29 #[.string (S [117, 114, 108])] W fun e w' => e = .returned (.bool true) ∧ W = w' from IsURL_S [117, 114, 108] W (by decide)))
            clear ht hl hl2 hh hT hO hF hlow hok hbq hpr h0 HTM
            generalize S (Pl.encs (Pl.addrF ascii q r)) = T at *
            go_enter Tryf.func11, Tryf.ntmps11
            go_wp2_with (first
              | (go_at_call 20; (first | (with_reducible refine (hP _).mono ?_) | (with_reducible refine (HPl.out _).mono ?_)); rintro e w' ⟨rfl, rfl⟩)
              | (go_at_call 25; (with_reducible refine (HTr.out _).mono ?_); rintro e w' ⟨rfl, rfl⟩)
              | (go_at_call 26; (with_reducible refine (hPr _).mono ?_); rintro e w' ⟨rfl, rfl⟩)
              | (go_at_call 21; (with_reducible refine (hL _).mono ?_); rintro e w' ⟨rfl, rfl⟩)
              | (go_at_call 27; (with_reducible refine HI.out.mono ?_); rintro e w1 ⟨rfl, hb1⟩; have HB1 := Lib.hid hb1; clear hb1)
              | (go_at_call 17; (with_reducible refine (HFt.out _).mono ?_); rintro e w' ⟨rfl, rfl⟩)
              | (go_at_call 29; (with_reducible refine (HU.out _).mono ?_); rintro e w' ⟨rfl, rfl⟩)
              | (go_at_call 28; (with_reducible refine (HTk.out _).mono ?_); rintro e w2 ⟨⟨g, cap, co, cc, rfl, hcell⟩, hb2⟩; have HB2 := Lib.hid (HB1.out.trans (hb2.mono HB1.out.size)); clear hb2;
                  have c0 : w2.cell? ⟨g, 0, none⟩ = some (.int .i64 27) := hcell 0 _ rfl; have c5 : w2.cell? ⟨g, 5, none⟩ = some (.string (S [117, 114, 108])) := hcell 5 _ rfl; have c6 : w2.cell? ⟨g, 6, none⟩ = some (.int .i64 36) := hcell 6 _ rfl;
                  have c11 : w2.cell? ⟨g, 11, none⟩ = some (.string (S (Pl.encs r))) := hcell 11 _ rfl; have c12 : w2.cell? ⟨g, 12, none⟩ = some (.int .i64 8) := hcell 12 _ rfl; clear hcell))
            go_ret
            exact ⟨by simp, HB2.out⟩
        · go_enter Tryf.func11, Tryf.ntmps11
          go_wp2_with (first
            | (go_at_call 20; (with_reducible refine (hP _).mono ?_); rintro e w' ⟨rfl, rfl⟩)
            | (go_at_call 25; (with_reducible refine (HTr.out _).mono ?_); rintro e w' ⟨rfl, rfl⟩)
            | (go_at_call 26; (with_reducible refine (hPr _).mono ?_); rintro e w' ⟨rfl, rfl⟩)
            | (go_at_call 21; (with_reducible refine (hL _).mono ?_); rintro e w' ⟨rfl, rfl⟩))
          go_ret
          exact ⟨rfl, Below.refl _ _⟩
      · go_enter Tryf.func11, Tryf.ntmps11
        go_wp2_with (first
          | (go_at_call 20; (with_reducible refine (hP _).mono ?_); rintro e w' ⟨rfl, rfl⟩)
          | (go_at_call 25; (with_reducible refine (HTr.out _).mono ?_); rintro e w' ⟨rfl, rfl⟩)
          | (go_at_call 26; (with_reducible refine (hPr _).mono ?_); rintro e w' ⟨rfl, rfl⟩))
        go_ret
        exact ⟨rfl, Below.refl _ _⟩
  · go_enter Tryf.func11, Tryf.ntmps11
    go_wp2_with (go_at_call 20; (with_reducible refine (hP _).mono ?_); rintro e w' ⟨rfl, rfl⟩)
    go_ret
    exact ⟨rfl, Below.refl _ _⟩
end Go.Proofs.YtmomkkakjkkakaaFmt
