/-
  WALK of printWithEscape: a sign as a hexadecimal number.
-/
import Derived.Test.YtmomkkakjkkakaaFmtPwb
import Derived.Test.YtmomkkakjkkakaaFmtHexd
import Derived.Stop.Texts
set_option linter.unusedVariables false
set_option linter.unusedSimpArgs false
set_option maxRecDepth 100000
namespace Go.Proofs.YtmomkkakjkkakaaFmt
open Go.RowKit Go.Kit Go.Extern.Stop Go.Stop Go.Extern

theorem digits_hexW : ∀ (f u : Nat) (acc : List Nat), FmtText.digitsFrom 16 false f u (acc.map UInt8.ofNat) = (Pl.hexW f u acc).map UInt8.ofNat
  | 0, u, acc => rfl
  | f + 1, u, acc => by
    have hd : ∀ k, FmtText.digit false k = UInt8.ofNat (Pl.hd k) := by intro k; rfl
    rw [FmtText.digitsFrom, Pl.hexW]
    by_cases h : u < 16
    · rw [if_pos h, if_pos h, hd]; rfl
    · rw [if_neg h, if_neg h, hd]
      exact digits_hexW f (u / 16) (Pl.hd (u % 16) :: acc)
theorem hexs_low {c : Nat} (h : c < 16777216) : ∀ d ∈ Pl.hexs c, d < 128 := fun d hd => (Pl.hex_ok ((Pl.hexs_spells h).all d hd)).2
theorem hexs_bytes {c : Nat} (h : c < 16777216) : FmtText.inBase 16 false (c : Int) = Pl.encs (Pl.hexs c) := by
  unfold FmtText.inBase
  rw [if_neg (by omega), encs_ascii _ (hexs_low h), Int.toNat_natCast]
  exact digits_hexW 64 c []
/-- what fmt gives -/
theorem hex_said (F : Interp) {c : Nat} (h : c ≤ 1114111) : (FmtStop.textOf (F.told "fmt.Sprintf" [[92, 37, 120], Tryf.shapeRune, digits 8 (c % 18446744073709551616)] 0)).data.toList = Pl.encs (92 :: Pl.hexs c) := by
  have hw : (Lit.int .i32 (c : Int)).wf = true := by simp [Lit.wf, IntKind.min, IntKind.max, IntKind.signed, IntKind.bits]; omega
  have e : Tryf.asked (c : Int) = [[92, 37, 120], Tryf.shapeRune, digits 8 (c % 18446744073709551616)] := by
    unfold Tryf.asked
    congr 3
  have hl := (Pl.hexs_spells (c := c) (by omega)).len
  have hb := Pl.encs_len_low (hexs_low (c := c) (by omega))
  have ht := told_string F (Tryf.hexText (c : Int) hw) (by rw [hexs_bytes (by omega)]; simp only [List.length_append, List.length_singleton]; omega)
  rw [e, hexs_bytes (by omega)] at ht
  rw [textOf_list, ht, Pl.encs_cons, show Pl.enc 92 = [92] from enc1 (by omega)]

theorem need_iff (y : Nat) : Pl.needSp y = true ↔ (y = 32 ∨ y = 9 ∨ (48 ≤ y ∧ y ≤ 57) ∨ (97 ≤ y ∧ y ≤ 102) ∨ (65 ≤ y ∧ y ≤ 70)) := by
  unfold Pl.needSp Pl.hexv
  rw [decide_eq_true_eq]
  (repeat' split) <;> omega
set_option maxHeartbeats 4000000 in
theorem pwe_hex {F : Interp} {w : World} {B : Nat} {ascii : Bool} {v : Value} {d : List UInt8} {c e : Nat} {x : ByteArray} {may : Bool} (h : Pr w B ascii v d) (hc : Pl.Ok c) (hd : d.length ≤ 35184372088832) (he : e = 2 ∨ (e = 1 ∧ 0 ≤ Pl.hexv c)) {t : List Nat} (hx : Str x (c :: t)) (hok : ∀ y ∈ t, Pl.Ok y) (hxs : x.size ≤ 1099511627776) (hF : F.told.answers w.tape) :
    Calls Tryf.prog 69 #[.pointer (some ⟨B, 0, none⟩), .int .i32 c, .int .u8 e, .string x, .bool may] w fun e w' => PrOut B ascii w (d ++ Pl.encs (92 :: (Pl.hexs c ++ Pl.tailSp c t.head? may))) e w' := by
  have hc1 : c ≤ 1114111 := by have := hc.1; unfold Pl.Sc at this; omega
  have hl4 := enc_len_le c
  have hl1 := enc_len_pos c
  have HP := Lib.hid h
  have hBw := h.lt
  obtain ⟨i0, hi, hz0, hz1, hz2⟩ := info_parts infoByte
  have hxsz : (x.size : Int) = (Pl.enc c).length + (Pl.encs t).length := by rw [hx.size, Pl.encs_cons, List.length_append]; omega
  have HXX := Lib.hid hx
  have HOK := Lib.hid hok
  have HXZ := Lib.hid hxsz
  have hrl : Lib.runeLen (c : Int) = ((Pl.enc c).length : Int) := by
    have hs := hc.1
    unfold Pl.Sc at hs
    unfold Lib.runeLen
    rcases Nat.lt_or_ge c 128 with g1 | g1
    · rw [enc1 g1, if_neg (by omega), if_pos (by omega)]; rfl
    rcases Nat.lt_or_ge c 2048 with g2 | g2
    · rw [enc2 g1 g2, if_neg (by omega), if_neg (by omega), if_pos (by omega)]; rfl
    rcases Nat.lt_or_ge c 65536 with g3 | g3
    · rw [enc3 (by omega), if_neg (by omega), if_neg (by omega), if_neg (by omega), if_neg (by omega), if_pos (by omega)]; rfl
    · rw [enc4 g3 (by omega), if_neg (by omega), if_neg (by omega), if_neg (by omega), if_neg (by omega), if_neg (by omega), if_pos (by omega)]; rfl
  have HRL := Lib.hid (fun (W : World) => (by have := Tryf.utf8_RuneLen (c : Int) W; rw [hrl] at this; exact this.mono fun e w' h => ⟨h.1, h.2.symm⟩ : Calls Tryf.prog 68 #[.int .i32 c] W fun e w' => e = .returned (.int .i64 ((Pl.enc c).length : Int)) ∧ W = w'))
  clear h hc hx hok hxsz hrl
  go_enter Tryf.func69, Tryf.ntmps69
  go_upto_region 1 with (fail)
  go_cut [40] (fun tv wr => tv = .bool (decide (e = 1)) ∧ wr = w.alloc (.cells #[.int .u8 0, .int .u8 0, .int .u8 0, .int .u8 0] 119))
  case first =>
    rcases he with rfl | ⟨rfl, hx⟩
    · go_wp2_with fail
      go_meet
      exact ⟨rfl, rfl⟩
    · have n1 : (48 ≤ (c : Int) ∧ (c : Int) ≤ 57) ∨ (97 ≤ (c : Int) ∧ (c : Int) ≤ 102) ∨ (65 ≤ (c : Int) ∧ (c : Int) ≤ 70) := by
        unfold Pl.hexv at hx
        split at hx
        · omega
        split at hx
        · omega
        split at hx <;> omega
      clear hx
      go_wp2_with fail
      all_goals
        go_meet
        exact ⟨by first | rfl | (simp; omega), rfl⟩
  case rest =>
  obtain ⟨rfl, hwe⟩ := hcut
  subst hwe
  go_upto_if 40 with fail
  go_cut [2] (fun sv wr => sv = .int .u8 2 ∧ wr = w.alloc (.cells #[.int .u8 0, .int .u8 0, .int .u8 0, .int .u8 0] 119))
  case first =>
    rcases he with rfl | ⟨rfl, hx⟩
    · go_wp2_with fail
      go_meet
      exact ⟨rfl, rfl⟩
    · clear hx
      go_wp2_with fail
      go_meet
      exact ⟨rfl, rfl⟩
  case rest =>
  obtain ⟨rfl, hwe⟩ := hcut
  subst hwe
  rename_i zz138 zz137 zz136 zz135 zz134 zz133 zz132 zz131 zz130 zz129 zz128 zz127 zz126 zz125 zz124 zz123 zz122 zz121 zz120 zz119 zz118 zz117 zz116 zz115 zz114 zz113 zz112 zz111 zz110 zz109 zz108 zz107 zz106 zz105 zz104 zz103 zz102 zz101 zz100 zz99 zz98 zz97 zz96 zz95 zz94 zz93 zz92 zz91 zz90 zz89 zz88 zz87 zz86 zz85 zz84 zz83 zz82 zz81 zz80 zz79 zz78 zz77 zz76 zz75 zz74 zz73 zz72 zz71 zz70 zz69 zz68 zz67 zz66 zz65 zz64 zz63 zz62 zz61 zz60 zz59 zz58 zz57 zz56 zz55 zz54 zz53 zz52 zz51 zz50 zz49 zz48 zz47 zz46 zz45 zz44 zz43 zz42 zz41 zz40 zz39 zz38 zz37 zz36 zz35 zz34 zz33 zz32 zz31 zz30 zz29 zz28 zz27 zz26 zz25 zz24 zz23 zz22 zz21 zz20 zz19 zz18 zz17 zz16 zz15 zz14 zz13 zz12 zz11 zz10 zz9 zz8 zz7 zz6 zz5 zz4 zz3 zz2 zz1; clear zz138 zz137 zz136 zz135 zz134 zz133 zz132 zz131 zz130 zz129 zz128 zz127 zz126 zz125 zz124 zz123 zz122 zz121 zz120 zz119 zz118 zz117 zz116 zz115 zz114 zz113 zz112 zz111 zz110 zz109 zz108 zz107 zz106 zz105 zz104 zz103 zz102 zz101 zz100 zz99 zz98 zz97 zz96 zz95 zz94 zz93 zz92 zz91 zz90 zz89 zz88 zz87 zz86 zz85 zz84 zz83 zz82 zz81 zz80 zz79 zz78 zz77 zz76 zz75 zz74 zz73 zz72 zz71 zz70 zz69 zz68 zz67 zz66 zz65 zz64 zz63 zz62 zz61 zz60 zz59 zz58 zz57 zz56 zz55 zz54 zz53 zz52 zz51 zz50 zz49 zz48 zz47 zz46 zz45 zz44 zz43 zz42 zz41 zz40 zz39 zz38 zz37 zz36 zz35 zz34 zz33 zz32 zz31 zz30 zz29 zz28 zz27 zz26 zz25 zz24 zz23 zz22 zz21 zz20 zz19 zz18 zz17 zz16 zz15 zz14 zz13 zz12 zz11 zz10 zz9 zz8 zz7 zz6 zz5 zz4 zz3 zz2 zz1
  have HP1 := Lib.hid (HP.out.alloc (.cells #[.int .u8 0, .int .u8 0, .int .u8 0, .int .u8 0] 119))
  have HK0 := Lib.hid ((Kp.refl 5 B w).alloc (Nat.le_of_lt hBw) (.cells #[.int .u8 0, .int .u8 0, .int .u8 0, .int .u8 0] 119))
  have hz1' : (w.alloc (.cells #[.int .u8 0, .int .u8 0, .int .u8 0, .int .u8 0] 119)).heap.size = w.heap.size + 1 := by simp
  have hF1 : F.told.answers (w.alloc (.cells #[.int .u8 0, .int .u8 0, .int .u8 0, .int .u8 0] 119)).tape := hF
  generalize w.alloc (.cells #[.int .u8 0, .int .u8 0, .int .u8 0, .int .u8 0] 119) = w1 at HP1 HK0 hz1' hF1 ⊢
  have hF' := answers_open hF1
  skip
  go_upto_region 13 with (fail)
  have hX := hex_said F hc1
  generalize FmtStop.textOf (F.told "fmt.Sprintf" [[92, 37, 120], Tryf.shapeRune, digits 8 (c % 18446744073709551616)] 0) = X at hX ⊢
  have hXs : X.size = 1 + (Pl.hexs c).length := by
    have e : X.data.toList.length = X.size := by rw [Array.length_toList]; rfl
    rw [← e, hX, Pl.encs_len_low (by
      intro d hd
      rcases List.mem_cons.mp hd with rfl | hd
      · omega
      · exact hexs_low (by omega) d hd)]
    simp; omega
  have HX := Lib.hid hX
  have HXS := Lib.hid hXs
  have hl6 := (Pl.hexs_spells (c := c) (by omega)).len
  have HP2 := Lib.hid ((HP1.out.alloc (.cells #[.iface 21 (.int .i32 c)] 20)).drew)
  have HK2 := Lib.hid ((HK0.out.alloc (by omega) (.cells #[.iface 21 (.int .i32 c)] 20)).drew)
  have hXb : X.size ≤ 7 := by omega
  clear hX hXs hF1 hF' hF
  generalize (w1.alloc (.cells #[.iface 21 (.int .i32 c)] 20)).drew = w2 at HP2 HK2 ⊢
  have hB2 := HP2.out.lt
  have c15 := HP2.out.css
  have f15 := HP2.out.free 15
  go_wp2_with (at_builtin; refine Lib.wpList_append_own_string _ rfl _ _ 31 9 rfl (B + 1) 5 i0 Tryf.underlying31 Tryf.underlying9 hi hz0 hz1 hz2 _ d.length (Lib.byteCells d) rfl HP2.out.own X rfl (by unfold maxLen; omega) (by omega) (by omega) ?grow)
  case grow =>
    intro v3 w3 hown3 hgrow3 _
    obtain ⟨g, cap, hv3, _, _⟩ := hown3.form (by have := HXS.out; omega)
    rw [hv3] at hown3 ⊢
    obtain ⟨c3, f3⟩ := HP2.out.kept hgrow3
    have HP3 := Lib.hid (HP2.out.app (x := X.data.toList) hgrow3 hown3 (by rw [List.length_append, Array.length_toList]; rfl) (by rw [Lib.byteCells_append]; rfl))
    have HK3 := Lib.hid (HK2.out.trans (HP2.out.kp hgrow3 (.slice (some ⟨g, 0, none⟩) (d.length + X.size) cap)))
    have hXp : 0 < X.size := by have := HXS.out; omega
    have HLL := Lib.hid (show (d ++ X.data.toList).length = d.length + X.size by rw [List.length_append, Array.length_toList]; rfl)
    clear c15 f15
    by_cases h6 : (Pl.hexs c).length < 6
    · have t7 : decide ((X.size : Int) < 7) = true := by have := HXS.out; simp; omega
      have FIN := Lib.hid (fun (sp : List Nat) (h : (match t.head? with | some d => if Pl.needSp d then [32] else [] | none => if may then [32] else []) = sp) => (show Pl.tailSp c t.head? may = sp by unfold Pl.tailSp; rw [if_pos h6]; exact h))
      go_upto_region 16 with ((go_at_call 68; (with_reducible refine (HRL.out _).mono ?_); rintro e w5 ⟨rfl, rfl⟩))
      generalize w3.setCell ⟨B, 15, none⟩ (.slice (some ⟨g, 0, none⟩) (d.length + X.size) cap) = w4 at HP3 HK3 ⊢
      have hB4 := HP3.out.lt
      have c154 := HP3.out.css
      have f154 := HP3.out.free 15
      clear c3 f3 h6 t7 hown3 hgrow3 hv3
      cases t with
      | nil =>
        have hxn : (x.size : Int) = (Pl.enc c).length := by have := HXZ.out; simpa [Pl.encs] using this
        have tx : ¬ (Pl.enc c).length < x.size := by omega
        clear hxn
        cases may with
        | true =>
          go_wp2_with (at_builtin; refine wpList_append_own _ rfl _ _ 31 rfl (B + 1) 5 i0 _ 1 1 Tryf.underlying31 hi hz0 hz1 hz2 rfl (by decide) _ (d.length + X.size) (Lib.byteCells (d ++ X.data.toList)) rfl ?owna _ 1 1 [.int .u8 32] rfl rfl ?hnewsa ?h1a (by unfold maxLen; omega) (by omega) ?hbasea ?growa)
          case owna => have := (HP3.out.alloc (.cells #[.int .u8 32] 5)).own; rw [HLL.out] at this; exact this
          try case hnewsa =>
            intro j u hu
            cases j with
            | zero => simp at hu; subst hu; simp [Addr.add]
            | succ j => simp at hu
          case h1a => first | rfl | (intro u hu; simp at hu; subst hu; rfl)
          case hbasea => first | omega | (simp; omega)
          case growa =>
            intro v7 w7 hown7 hgrow7 _
            obtain ⟨g7, cap7, hv7, _, _⟩ := hown7.form (by omega)
            rw [hv7] at hown7 ⊢
            obtain ⟨c7, f7⟩ := (HP3.out.alloc (.cells #[.int .u8 32] 5)).kept hgrow7
            have HP7 := Lib.hid ((HP3.out.alloc (.cells #[.int .u8 32] 5)).app (x := [32]) hgrow7 hown7 (by rw [List.length_append, HLL.out]; rfl) (by simp only [Lib.byteCells_append]; rfl))
            have HK7 := Lib.hid ((HK3.out.alloc (Nat.le_of_lt hB4) (.cells #[.int .u8 32] 5)).trans ((HP3.out.alloc (.cells #[.int .u8 32] 5)).kp hgrow7 (.slice (some ⟨g7, 0, none⟩) (d.length + X.size + 1) cap7)))
            go_wp2_with fail
            go_end0
            have := HP7.out
            rw [HX.out, List.append_assoc, show ([32] : List UInt8) = Pl.encs [32] from (by rw [Pl.encs_cons, enc1 (by omega)]; rfl), ← Pl.encs_append] at this
            rw [FIN.out [32] (by simp), ← List.cons_append]
            exact ⟨rfl, ⟨_, this⟩, HK7.out⟩
        | false =>
          go_wp2_with fail
          go_end0
          have := HP3.out
          rw [HX.out] at this
          rw [FIN.out [] (by simp), List.append_nil]
          exact ⟨rfl, ⟨_, this⟩, HK3.out⟩
      | cons y t =>
        have hyo := HOK.out y (by simp)
        have hys : Pl.Sc y := hyo.1
        have hyl := enc_len_pos y
        have hxn : (Pl.enc c).length < x.size := by have := HXZ.out; rw [Pl.encs_cons, List.length_append] at this; omega
        have hdrop : x.data.toList.drop (Pl.enc c).length = Pl.encs (y :: t) := by rw [HXX.out.txt, Pl.encs_cons, List.drop_left]
        have hbyte : (y < 128 ∧ bt x (Pl.enc c).length = y) ∨ (128 ≤ y ∧ 128 ≤ bt x (Pl.enc c).length) := by
          have hb := bt_drop hdrop 0
          rw [Nat.add_zero] at hb
          rw [hb, Pl.encs_cons]
          unfold Pl.Sc at hys
          rcases Nat.lt_or_ge y 128 with g1 | g1
          · left; rw [enc1 g1]; exact ⟨g1, by simp; omega⟩
          right
          refine ⟨g1, ?_⟩
          rcases Nat.lt_or_ge y 2048 with g2 | g2
          · rw [enc2 g1 g2]; simp; omega
          rcases Nat.lt_or_ge y 65536 with g3 | g3
          · rw [enc3 (by omega)]; simp; omega
          · rw [enc4 g3 (by omega)]; simp; omega
        have hbe := bt_eq hxn
        have HBY := Lib.hid (And.intro hbyte hbe)
        have hxi : ((Pl.enc c).length : Int) < (x.size : Int) := by omega
        clear hyo hys hdrop hbyte hbe
        go_upto_region 18 with (fail)
        have HB3 := Lib.hid (show ((y : Int) < 128 ∧ (x[(Pl.enc c).length].toNat : Int) = y) ∨ (128 ≤ (y : Int) ∧ 128 ≤ (x[(Pl.enc c).length].toNat : Int)) from by obtain ⟨hb1, hb2⟩ := HBY.out; rw [hb2]; omega)
        have hwk : wrap32 (x[(Pl.enc c).length].toNat : Int) = (x[(Pl.enc c).length].toNat : Int) := by have := UInt8.toNat_lt x[(Pl.enc c).length]; unfold wrap32; omega
        rw [hwk]
        clear hwk HBY
        generalize (x[(Pl.enc c).length].toNat : Int) = k at HB3 ⊢
        clear u43 u58 u82 u83 u84 u85 u86 u87 u88 u89 u90 u91 u92 u93 u94 u95 u96 u97 u98 u99 u100 u101 u102 u103 u104 u105 u106 u107 u108
        go_cut [1, 138] (fun kv tv wr => tv = .bool (Pl.needSp y) ∧ wr = w4)
        case first =>
          clear F e hd he hxs hc1 hl4 hl1 HP hBw i0 hi hz0 hz1 hz2 HRL w1 HP1 HK0 hz1' HX HXS hl6 hXb w2 HP2 HK2 hB2 hXp HLL HP3 HK3 hB4 c154 f154 HXX HOK HXZ FIN hyl hxn hxi
          go_wp2_with fail
          all_goals
            go_meet
            refine ⟨congrArg Value.bool ?_, rfl⟩
            have hb3 := HB3.out
            clear HB3
            (try simp only [beq_iff_eq, beq_eq_false_iff_ne] at *)
            rw [Bool.eq_iff_iff, need_iff]
            (try simp)
            omega
        case rest =>
          obtain ⟨rfl, hwe⟩ := hcut
          subst hwe
          by_cases hsp : Pl.needSp y = true
          · have HSP := Lib.hid hsp
            rw [hsp]
            go_wp2_with (at_builtin; refine wpList_append_own _ rfl _ _ 31 rfl (B + 1) 5 i0 _ 1 1 Tryf.underlying31 hi hz0 hz1 hz2 rfl (by decide) _ (d.length + X.size) (Lib.byteCells (d ++ X.data.toList)) rfl ?ownb _ 1 1 [.int .u8 32] rfl rfl ?hnewsb ?h1b (by unfold maxLen; omega) (by omega) ?hbaseb ?growb)
            case ownb => have := (HP3.out.alloc (.cells #[.int .u8 32] 5)).own; rw [HLL.out] at this; exact this
            try case hnewsb =>
              intro j u hu
              cases j with
              | zero => simp at hu; subst hu; simp [Addr.add]
              | succ j => simp at hu
            case h1b => first | rfl | (intro u hu; simp at hu; subst hu; rfl)
            case hbaseb => first | omega | (simp; omega)
            case growb =>
              intro v7 w7 hown7 hgrow7 _
              obtain ⟨g7, cap7, hv7, _, _⟩ := hown7.form (by omega)
              rw [hv7] at hown7 ⊢
              obtain ⟨c7, f7⟩ := (HP3.out.alloc (.cells #[.int .u8 32] 5)).kept hgrow7
              have HP7 := Lib.hid ((HP3.out.alloc (.cells #[.int .u8 32] 5)).app (x := [32]) hgrow7 hown7 (by rw [List.length_append, HLL.out]; rfl) (by simp only [Lib.byteCells_append]; rfl))
              have HK7 := Lib.hid ((HK3.out.alloc (Nat.le_of_lt hB4) (.cells #[.int .u8 32] 5)).trans ((HP3.out.alloc (.cells #[.int .u8 32] 5)).kp hgrow7 (.slice (some ⟨g7, 0, none⟩) (d.length + X.size + 1) cap7)))
              go_wp2_with fail
              go_end0
              have := HP7.out
              rw [HX.out, List.append_assoc, show ([32] : List UInt8) = Pl.encs [32] from (by rw [Pl.encs_cons, enc1 (by omega)]; rfl), ← Pl.encs_append] at this
              rw [FIN.out [32] (by simp [HSP.out]), ← List.cons_append]
              exact ⟨rfl, ⟨_, this⟩, HK7.out⟩
          · have hsp : Pl.needSp y = false := by simpa using hsp
            have HSP := Lib.hid hsp
            rw [hsp]
            go_wp2_with fail
            go_end0
            have := HP3.out
            rw [HX.out] at this
            rw [FIN.out [] (by simp [HSP.out]), List.append_nil]
            exact ⟨rfl, ⟨_, this⟩, HK3.out⟩
    · have t7 : decide ((X.size : Int) < 7) = false := by have := HXS.out; simp; omega
      have FIN := Lib.hid (show Pl.tailSp c t.head? may = [] by unfold Pl.tailSp; rw [if_neg h6])
      clear h6
      go_wp2_with fail
      go_end0
      have := HP3.out
      rw [HX.out] at this
      rw [FIN.out, List.append_nil]
      exact ⟨rfl, ⟨_, this⟩, HK3.out⟩
end Go.Proofs.YtmomkkakjkkakaaFmt
