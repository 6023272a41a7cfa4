/-
  WALK of printQuotedWithQuote.
-/
import Derived.Test.YtmomkkakjkkakaaFmtQa
import Derived.Test.YtmomkkakjkkakaaFmtFold
import Derived.Deep.LoopGhost
import Derived.Deep.CutBlock
import Derived.Deep.DeepCutAuto
import Derived.Deep.RegionLaw
set_option linter.unusedVariables false
set_option linter.unusedSimpArgs false
set_option maxRecDepth 100000
namespace Go.Proofs.YtmomkkakjkkakaaFmt
open Go.RowKit Go.Kit Go.Extern.Stop Go.Stop Go.Extern

theorem has_none (w : World) : Calls Tryf.prog 74 #[.int .u16 0, .int .u16 64] w fun e w' => e = .returned (.bool false) ∧ w = w' := by
  have hb : bits .and .u16 0 64 = 0 := by decide
  go_enter Tryf.func74, Tryf.ntmps74
  go_wp2_with fail
  go_ret
  exact ⟨rfl, rfl⟩
/-- the quote ahead, if there is one -/
def preQ (q : Nat) : List UInt8 := if q = 0 then [] else [UInt8.ofNat q]
theorem quote_bytes (ascii : Bool) {q : Nat} (hq : q < 128) (r : List Nat) : Pl.encs (Pl.quoteF ascii q r) = preQ q ++ Pl.encs (Pl.innerF ascii q r) ++ preQ q := by
  unfold Pl.quoteF preQ
  by_cases h : q = 0
  · rw [if_pos h, if_pos h]; simp
  · rw [if_neg h, if_neg h, Pl.encs_cons, Pl.encs_append, Pl.encs_cons, Pl.encs_nil, enc1 hq]; simp
set_option maxHeartbeats 40000000 in
theorem pqw_any {F : Interp} {w : World} {B : Nat} {ascii : Bool} {v : Value} {d : List UInt8} {x : ByteArray} {r : List Nat} {q : Nat} (hP : Pr w B ascii v d) (hd : d.length ≤ 1099511627776) (hq : q = 0 ∨ q = 34 ∨ q = 39) (hx : Str x r) (hok : ∀ c ∈ r, Pl.Ok c) (hs : x.size ≤ 1099511627776) (hTB : ∀ W, Below B w W → Tabs W) (hOB : ∀ W, Below B w W → Folds W) (hF : F.told.answers w.tape) :
    Calls Tryf.prog 49 #[.pointer (some ⟨B, 0, none⟩), .string x, .int .u8 q, .int .u8 0] w fun e w' => PrOut B ascii w (d ++ Pl.encs (Pl.quoteF ascii q r)) e w' := by
  have HX := Lib.hid hx
  have HOK := Lib.hid hok
  have HP := Lib.hid hP
  have HF := Lib.hid hF
  have HTB := Lib.hid hTB
  have HOB := Lib.hid hOB
  have hBw := hP.lt
  have hQ := quote_bytes ascii (q := q) (by omega) r
  have HQB := Lib.hid hQ
  obtain ⟨i0, hi, hz0, hz1, hz2⟩ := info_parts infoByte
  clear hx hok hP hF hTB hOB hQ
  go_enter Tryf.func49, Tryf.ntmps49
  go_upto_if 17 with fail
  go_cut [] (fun wr => Hid (∃ v1, Pr wr B ascii v1 (d ++ preQ q)) ∧ Hid (Kp 5 B w wr))
  case first =>
    rcases hq with rfl | rfl | rfl
    · skip
      as_aux_lemma =>
        go_wp2_with fail
        go_meet
        exact ⟨Lib.hid ⟨v, by simpa [preQ] using HP.out⟩, Lib.hid (Kp.refl _ _ _)⟩
    · have c15 := HP.out.css
      have f15 := HP.out.free 15
      as_aux_lemma =>
        go_wp2_with (at_builtin; refine wpList_append_own _ rfl _ _ 31 rfl (B + 1) 5 i0 _ 1 1 Tryf.underlying31 hi hz0 hz1 hz2 rfl (by decide) _ d.length (Lib.byteCells d) rfl ?owna34 _ 1 1 [.int .u8 34] rfl rfl ?hnewsa34 ?h1a34 (by unfold maxLen; omega) (by omega) ?hbasea34 ?growa34)
        case owna34 => exact (HP.out.alloc _).own
        case hnewsa34 =>
          intro j u hu
          match j, hu with
          | 0, hu => simp at hu; subst hu; simp [Addr.add]
          | (j + 1), hu => simp at hu
        case h1a34 => intro u hu; simp at hu; subst hu; rfl
        case hbasea34 => simp; omega
        case growa34 =>
          intro v3 w3 hown3 hgrow3 _
          obtain ⟨g, cap, hv3, _, _⟩ := hown3.form (by omega)
          rw [hv3] at hown3 ⊢
          have HP2 := Lib.hid ((HP.out.alloc (.cells #[.int .u8 34] 5)).app (x := [34]) hgrow3 hown3 (by simp) (by rw [Lib.byteCells_append]; rfl))
          have HK2 := Lib.hid (((Kp.refl 5 B w).alloc (Nat.le_of_lt hBw) (.cells #[.int .u8 34] 5)).trans ((HP.out.alloc (.cells #[.int .u8 34] 5)).kp hgrow3 (.slice (some ⟨g, 0, none⟩) (d.length + 1) cap)))
          obtain ⟨c3, f3⟩ := (HP.out.alloc (.cells #[.int .u8 34] 5)).kept hgrow3
          go_wp2_with fail
          go_meet
          exact ⟨Lib.hid ⟨_, HP2.out⟩, HK2⟩
    · have c15 := HP.out.css
      have f15 := HP.out.free 15
      as_aux_lemma =>
        go_wp2_with (at_builtin; refine wpList_append_own _ rfl _ _ 31 rfl (B + 1) 5 i0 _ 1 1 Tryf.underlying31 hi hz0 hz1 hz2 rfl (by decide) _ d.length (Lib.byteCells d) rfl ?owna39 _ 1 1 [.int .u8 39] rfl rfl ?hnewsa39 ?h1a39 (by unfold maxLen; omega) (by omega) ?hbasea39 ?growa39)
        case owna39 => exact (HP.out.alloc _).own
        case hnewsa39 =>
          intro j u hu
          match j, hu with
          | 0, hu => simp at hu; subst hu; simp [Addr.add]
          | (j + 1), hu => simp at hu
        case h1a39 => intro u hu; simp at hu; subst hu; rfl
        case hbasea39 => simp; omega
        case growa39 =>
          intro v3 w3 hown3 hgrow3 _
          obtain ⟨g, cap, hv3, _, _⟩ := hown3.form (by omega)
          rw [hv3] at hown3 ⊢
          have HP2 := Lib.hid ((HP.out.alloc (.cells #[.int .u8 39] 5)).app (x := [39]) hgrow3 hown3 (by simp) (by rw [Lib.byteCells_append]; rfl))
          have HK2 := Lib.hid (((Kp.refl 5 B w).alloc (Nat.le_of_lt hBw) (.cells #[.int .u8 39] 5)).trans ((HP.out.alloc (.cells #[.int .u8 39] 5)).kp hgrow3 (.slice (some ⟨g, 0, none⟩) (d.length + 1) cap)))
          obtain ⟨c3, f3⟩ := (HP.out.alloc (.cells #[.int .u8 39] 5)).kept hgrow3
          go_wp2_with fail
          go_meet
          exact ⟨Lib.hid ⟨_, HP2.out⟩, HK2⟩
  case rest =>
    obtain ⟨HP1, HK1⟩ := hcut
    have hlen : (d ++ preQ q).length ≤ d.length + 1 := by rw [List.length_append]; unfold preQ; split <;> simp
    obtain ⟨d1, hd1⟩ : ∃ d1, d ++ preQ q = d1 := ⟨_, rfl⟩
    have HD1 := Lib.hid hd1
    rw [hd1] at HP1 hlen
    clear hd1
    obtain ⟨v1, hp1⟩ := HP1.out
    have hz : B < wc.heap.size := hp1.lt
    have cL := hp1.lim
    have HPA := Lib.hid hp1
    clear HP1 hp1
    go_wp2_with fail
    clear cL
    go_loopg [9, 10] r.length (fun k iv sv wr => ∃ (a1 a2 t : List Nat) (D : List UInt8) (u : Value), k = t.length ∧ iv = .int .i64 ((Pl.encs (a1 ++ a2)).length : Nat) ∧ sv = .int .i64 ((Pl.encs a1).length : Nat) ∧ Hid (r = a1 ++ a2 ++ t) ∧
      Hid (D.length + (Pl.encs a2).length + 8 * (Pl.encs t).length ≤ d.length + 8 * x.size + 1) ∧ Hid (Pr wr B ascii u D) ∧ Hid (Kp 5 B w wr) ∧
      Hid (d1 ++ Pl.encs (Pl.innerF ascii q r) = D ++ Pl.encs a2 ++ Pl.encs (Pl.outF (Pl.qItems ascii q (a1 ++ a2).getLast? t) false)))
    case atStart => exact ⟨[], [], r, d1, v1, rfl, rfl, rfl, Lib.hid rfl, Lib.hid (by have := HX.out.size; rw [← this, show (Pl.encs ([] : List Nat)).length = 0 from rfl]; omega), HPA, HK1, Lib.hid (by rw [Pl.encs_nil, List.append_nil]; rfl)⟩
    case round =>
      clear HPA HK1
      obtain ⟨a1, a2, t, D, u, rfl, rfl, rfl, HR, HL, HPr, HKr, HO⟩ := hrel
      have hzr : B < wr.heap.size := HPr.out.lt
      cases t with
      | nil =>
        have hI := q_end (x := x) (a := a1 ++ a2) (by have := HX.out; rw [HR.out] at this; exact this)
        rw [hI]
        have hnl : ¬ ((x.size : Int) < (x.size : Int)) := by omega
        have HMID := Lib.hid (by have := q_mid (x := x) (a1 := a1) (a2 := a2) (t := []) (by rw [← HR.out]; exact HX.out); rw [hI] at this; exact this : (x.extract (Pl.encs a1).length x.size).data.toList = Pl.encs a2 ∧ (x.extract (Pl.encs a1).length x.size).size = (Pl.encs a2).length)
        have hIa : (Pl.encs a1).length + (Pl.encs a2).length = x.size := by have := hI; rw [Pl.encs_append, List.length_append] at this; omega
        have hsm := q_small HL.out hd hs
        have HIA := Lib.hid hIa
        have hIl : (Pl.encs a1).length ≤ x.size := by omega
        clear hI hIa
        rename_i zz153 zz152 zz151 zz150 zz149 zz148 zz147 zz146 zz145 zz144 zz143 zz142 zz141 zz140 zz139 zz138 zz137 zz136 zz135 zz134 zz133 zz132 zz131 zz130 zz129 zz128 zz127 zz126 zz125 zz124 zz123 zz122 zz121 zz120 zz119 zz118 zz117 zz116 zz115 zz114 zz113 zz112 zz111 zz110 zz109 zz108 zz107 zz106 zz105 zz104 zz103 zz102 zz101 zz100 zz99 zz98 zz97 zz96 zz95 zz94 zz93 zz92 zz91 zz90 zz89 zz88 zz87 zz86 zz85 zz84 zz83 zz82 zz81 zz80 zz79 zz78 zz77 zz76 zz75 zz74 zz73 zz72 zz71 zz70 zz69 zz68 zz67 zz66 zz65 zz64 zz63 zz62 zz61 zz60 zz59 zz58 zz57 zz56 zz55 zz54 zz53 zz52 zz51 zz50 zz49 zz48 zz47 zz46 zz45 zz44 zz43 zz42 zz41 zz40 zz39 zz38 zz37 zz36 zz35 zz34 zz33 zz32 zz31 zz30 zz29 zz28 zz27 zz26 zz25 zz24 zz23 zz22 zz21 zz20 zz19 zz18 zz17 zz16 zz15 zz14 zz13 zz12 zz11 zz10 zz9 zz8 zz7 _ _ _ _ _ _; clear u28 u29 u30 u31 u32 u33 u34 u35 u36 u37 u38 u39 u40 u41 u42 u43 u44 zz153 zz152 zz151 zz150 zz149 zz148 zz147 zz146 zz145 zz144 zz143 zz142 zz141 zz140 zz139 zz138 zz137 zz136 zz135 zz134 zz133 zz132 zz131 zz130 zz129 zz128 zz127 zz126 zz125 zz124 zz123 zz122 zz121 zz120 zz119 zz118 zz117 zz116 zz115 zz114 zz113 zz112 zz111 zz110 zz109 zz108 zz107 zz106 zz105 zz104 zz103 zz102 zz101 zz100 zz99 zz98 zz97 zz96 zz95 zz94 zz93 zz92 zz91 zz90 zz89 zz88 zz87 zz86 zz85 zz84 zz83 zz82 zz81 zz80 zz79 zz78 zz77 zz76 zz75 zz74 zz73 zz72 zz71 zz70 zz69 zz68 zz67 zz66 zz65 zz64 zz63 zz62 zz61 zz60 zz59 zz58 zz57 zz56 zz55 zz54 zz53 zz52 zz51 zz50 zz49 zz48 zz47 zz46 zz45 zz44 zz43 zz42 zz41 zz40 zz39 zz38 zz37 zz36 zz35 zz34 zz33 zz32 zz31 zz30 zz29 zz28 zz27 zz26 zz25 zz24 zz23 zz22 zz21 zz20 zz19 zz18 zz17 zz16 zz15 zz14 zz13 zz12 zz11 zz10 zz9 zz8 zz7 v1
        go_upto_if 213 with fail
        clear u59 u60 u61
        obtain ⟨wc, hwc⟩ : ∃ wc, wc = wr := ⟨_, rfl⟩
        subst hwc
        go_cut [] (fun wr' => Hid (∃ u2, Pr wr' B ascii u2 (D ++ Pl.encs a2)) ∧ Hid (Kp 5 B w wr'))
        case first =>
          cases hc2 : a2 with
          | nil =>
            have hlt : ¬ (Pl.encs a1).length < x.size := by have := HIA.out; rw [hc2] at this; simp [Pl.encs] at this ⊢; omega
            have HC2 := Lib.hid hc2
            clear hc2
            as_aux_lemma =>
              go_wp2_with fail
              go_meet
              exact ⟨Lib.hid ⟨u, by rw [HC2.out]; simpa [Pl.encs] using HPr.out⟩, HKr⟩
          | cons y l =>
            have hmp : 0 < (Pl.encs a2).length := by rw [hc2, Pl.encs_cons, List.length_append]; have := enc_len_pos y; omega
            have hlt : (Pl.encs a1).length < x.size := by have := HIA.out; omega
            clear hc2
            go_upto_region 50 with fail
            have HOW := Lib.hid (HPr.out.drew.own : wc.drew.ownsRow (B + 1) 5 1 u D.length (Lib.byteCells D))
            have HKK := Lib.hid (fun (w3 : World) (g : wc.drew.grownBy w3 (Value.ownBlock u)) => HPr.out.drew.kept g)
            have c15 := HPr.out.css
            have f15 := HPr.out.free 15
            go_region_law (refine step_append_str rfl (.tmp 218) (.tmp 221) 31 9 rfl (B + 1) 5 i0 Tryf.underlying31 Tryf.underlying9 hi hz0 hz1 hz2 u D.length (Lib.byteCells D) (by simp [Act.eval, Act.put]) HOW.out (x.extract (Pl.encs a1).length x.size) (by simp [Act.eval, Act.put]) _ HMID.out.2 hmp (by unfold maxLen; omega) (by omega) (by simp; omega) ?_; intro g cap w3 hown3 hgrow3; obtain ⟨c3, f3⟩ := HKK.out _ hgrow3)
            as_aux_lemma =>
              go_wp2_with fail
              go_meet
              have hpa := HPr.out.drew.app (x := (x.extract (Pl.encs a1).length x.size).data.toList) hgrow3 hown3 (by rw [List.length_append, HMID.out.1]) (by rw [Lib.byteCells_append]; rfl)
              rw [HMID.out.1] at hpa
              exact ⟨Lib.hid ⟨_, hpa⟩, Lib.hid (HKr.out.drew.trans (HPr.out.drew.kp hgrow3 _))⟩
        case rest =>
          obtain ⟨HP4, HK4⟩ := hcut
          obtain ⟨u2, hp4⟩ := HP4.out
          have HP5 := Lib.hid hp4
          have hz5 : B < wc.heap.size := hp4.lt
          have HFIN := Lib.hid (show d ++ Pl.encs (Pl.quoteF ascii q r) = D ++ Pl.encs a2 ++ preQ q from by
            rw [HQB.out, ← List.append_assoc, ← List.append_assoc, HD1.out]
            have := HO.out
            rw [show Pl.outF (Pl.qItems ascii q (a1 ++ a2).getLast? []) false = [] from rfl, Pl.encs_nil, List.append_nil] at this
            rw [this])
          have hsm2 : (D ++ Pl.encs a2).length ≤ 35184372088832 := by rw [List.length_append]; exact hsm
          generalize D ++ Pl.encs a2 = D2 at HP5 HFIN hsm2
          clear hp4 HP4 HMID HIA
          rcases hq with rfl | rfl | rfl
          · as_aux_lemma =>
              go_wp2_with fail
              go_end0
              rw [HFIN.out]
              exact ⟨rfl, ⟨u2, by simpa [preQ] using HP5.out⟩, HK4.out⟩
          · have c15 := HP5.out.css
            have f15 := HP5.out.free 15
            as_aux_lemma =>
              go_wp2_with (at_builtin; refine wpList_append_own _ rfl _ _ 31 rfl (B + 1) 5 i0 _ 1 1 Tryf.underlying31 hi hz0 hz1 hz2 rfl (by decide) _ D2.length (Lib.byteCells D2) rfl ?ownf34 _ 1 1 [.int .u8 34] rfl rfl ?hnewsf34 ?h1f34 (by unfold maxLen; omega) (by omega) ?hbasef34 ?growf34)
              case ownf34 => exact (HP5.out.alloc _).own
              try case hnewsf34 =>
                intro j u hu
                match j, hu with
                | 0, hu => simp at hu; subst hu; simp [Addr.add]
                | (j + 1), hu => simp at hu
              case h1f34 => first | rfl | (intro u hu; simp at hu; subst hu; rfl)
              case hbasef34 => first | omega | (simp; omega)
              case growf34 =>
                intro v3 w3 hown3 hgrow3 _
                obtain ⟨g, cap, hv3, _, _⟩ := hown3.form (by omega)
                rw [hv3] at hown3 ⊢
                have HP2 := Lib.hid ((HP5.out.alloc (.cells #[.int .u8 34] 5)).app (x := [34]) hgrow3 hown3 (by simp) (by rw [Lib.byteCells_append]; rfl))
                have HK2 := Lib.hid ((HK4.out.alloc (Nat.le_of_lt hz5) (.cells #[.int .u8 34] 5)).trans ((HP5.out.alloc (.cells #[.int .u8 34] 5)).kp hgrow3 (.slice (some ⟨g, 0, none⟩) (D2.length + 1) cap)))
                obtain ⟨c3, f3⟩ := (HP5.out.alloc (.cells #[.int .u8 34] 5)).kept hgrow3
                go_wp2_with fail
                go_end0
                rw [HFIN.out]
                exact ⟨rfl, ⟨_, HP2.out⟩, HK2.out⟩
          · have c15 := HP5.out.css
            have f15 := HP5.out.free 15
            as_aux_lemma =>
              go_wp2_with (at_builtin; refine wpList_append_own _ rfl _ _ 31 rfl (B + 1) 5 i0 _ 1 1 Tryf.underlying31 hi hz0 hz1 hz2 rfl (by decide) _ D2.length (Lib.byteCells D2) rfl ?ownf39 _ 1 1 [.int .u8 39] rfl rfl ?hnewsf39 ?h1f39 (by unfold maxLen; omega) (by omega) ?hbasef39 ?growf39)
              case ownf39 => exact (HP5.out.alloc _).own
              try case hnewsf39 =>
                intro j u hu
                match j, hu with
                | 0, hu => simp at hu; subst hu; simp [Addr.add]
                | (j + 1), hu => simp at hu
              case h1f39 => first | rfl | (intro u hu; simp at hu; subst hu; rfl)
              case hbasef39 => first | omega | (simp; omega)
              case growf39 =>
                intro v3 w3 hown3 hgrow3 _
                obtain ⟨g, cap, hv3, _, _⟩ := hown3.form (by omega)
                rw [hv3] at hown3 ⊢
                have HP2 := Lib.hid ((HP5.out.alloc (.cells #[.int .u8 39] 5)).app (x := [39]) hgrow3 hown3 (by simp) (by rw [Lib.byteCells_append]; rfl))
                have HK2 := Lib.hid ((HK4.out.alloc (Nat.le_of_lt hz5) (.cells #[.int .u8 39] 5)).trans ((HP5.out.alloc (.cells #[.int .u8 39] 5)).kp hgrow3 (.slice (some ⟨g, 0, none⟩) (D2.length + 1) cap)))
                obtain ⟨c3, f3⟩ := (HP5.out.alloc (.cells #[.int .u8 39] 5)).kept hgrow3
                go_wp2_with fail
                go_end0
                rw [HFIN.out]
                exact ⟨rfl, ⟨_, HP2.out⟩, HK2.out⟩
      | cons c t =>
        obtain ⟨glt, gstr, gok, gokt, gle, gsz, gfits, gnxt, gall⟩ := q_round (x := x) (a := a1 ++ a2) (c := c) (t := t) (by rw [← HR.out]; exact HX.out) (by rw [← HR.out]; exact HOK.out)
        have HG := Lib.hid (And.intro gstr (And.intro gok (And.intro gokt gsz)))
        have HTr := Lib.hid (HTB.out wr HKr.out.below)
        have HPrr := Lib.hid (fun W (h : Below wr.heap.size wr W) => HPr.out.keep h)
        have HGN := Lib.hid (And.intro gnxt gall)
        have HCS := Lib.hid (show Pl.Sc c from gok.1)
        clear gstr gok gokt gsz gnxt gall
        go_upto_region 21 with (go_at_call 73; (with_reducible refine (decS HG.out.1 HCS.out HTr.out).mono ?_); rintro e w2 ⟨rfl, hb2⟩; have HB2 := Lib.hid hb2; clear hb2)
        clear HTr
        have HPr2 := Lib.hid (HPrr.out w2 HB2.out)
        have HK2 := Lib.hid (HKr.out.trans (Kp.fresh (T := 5) HB2.out (Nat.le_of_lt hzr)))
        have hzr2 := HB2.out.size
        have ca := HPr2.out.asc
        have cu := HPr2.out.uns
        have hzw2 : B < w2.heap.size := HPr2.out.lt
        have HOr := Lib.hid (HOB.out w2 HK2.out.below)
        have HLB := Lib.hid (fun (J : Nat) (hJ : (Pl.encs (a1 ++ a2)).length = J + 1) => last_byte (x := x) (a := a1 ++ a2) (u := c :: t) (by have := HX.out; rw [HR.out] at this; exact this) (fun y hy => HOK.out y (by rw [HR.out]; simp at hy ⊢; rcases hy with h | h <;> simp [h])) hJ)
        have HTD := Lib.hid (fun (h1 : (Pl.enc c).length = 1) => (show x.data.toList.drop ((Pl.encs (a1 ++ a2)).length + 1) = Pl.encs t from by
          have := HX.out.txt
          rw [HR.out, Pl.encs_append, Pl.encs_cons] at this
          rw [this, ← h1, ← List.append_assoc, ← List.length_append, List.drop_left]))
        obtain ⟨I, hI⟩ : ∃ I, (Pl.encs (a1 ++ a2)).length = I := ⟨_, rfl⟩
        have HII := Lib.hid hI
        rw [hI] at glt gfits ⊢
        simp only [hI] at HLB HTD
        generalize hp : (a1 ++ a2).getLast? = p at HLB
        have HPP := Lib.hid hp
        have hp0 : I = 0 → p = none := by
          intro h
          rw [← hp]
          cases hc : a1 ++ a2 with
          | nil => rfl
          | cons y l => rw [hc, Pl.encs_cons, List.length_append] at hI; have := enc_len_pos y; omega
        have HP0 := Lib.hid hp0
        have HSZ := Lib.hid (show x.size = I + (Pl.enc c).length + (Pl.encs t).length from by have := HGN.out.2; rw [hI] at this; exact this)
        clear hI hp hp0
        rename_i zz157 zz156 zz155 zz154 zz153 zz152 zz151 zz150 zz149 zz148 zz147 zz146 zz145 zz144 zz143 zz142 zz141 zz140 zz139 zz138 zz137 zz136 zz135 zz134 zz133 zz132 zz131 zz130 zz129 zz128 zz127 zz126 zz125 zz124 zz123 zz122 zz121 zz120 zz119 zz118 zz117 zz116 zz115 zz114 zz113 zz112 zz111 zz110 zz109 zz108 zz107 zz106 zz105 zz104 zz103 zz102 zz101 zz100 zz99 zz98 zz97 zz96 zz95 zz94 zz93 zz92 zz91 zz90 zz89 zz88 zz87 zz86 zz85 zz84 zz83 zz82 zz81 zz80 zz79 zz78 zz77 zz76 zz75 zz74 zz73 zz72 zz71 zz70 zz69 zz68 zz67 zz66 zz65 zz64 zz63 zz62 zz61 zz60 zz59 zz58 zz57 zz56 zz55 zz54 zz53 zz52 zz51 zz50 zz49 zz48 zz47 zz46 zz45 zz44 zz43 zz42 zz41 zz40 zz39 zz38 zz37 zz36 zz35 zz34 zz33 zz32 zz31 zz30 zz29 zz28 zz27 zz26 zz25 zz24 zz23 zz22 zz21 zz20 zz19 zz18 zz17 zz16 zz15 zz14 zz13 zz12 zz11 _ _ _ _ _ _ _ _ _ _; clear u28 u29 u30 u31 u32 u33 u34 u35 u36 u37 u38 u39 u40 u41 u42 u43 u44 zz157 zz156 zz155 zz154 zz153 zz152 zz151 zz150 zz149 zz148 zz147 zz146 zz145 zz144 zz143 zz142 zz141 zz140 zz139 zz138 zz137 zz136 zz135 zz134 zz133 zz132 zz131 zz130 zz129 zz128 zz127 zz126 zz125 zz124 zz123 zz122 zz121 zz120 zz119 zz118 zz117 zz116 zz115 zz114 zz113 zz112 zz111 zz110 zz109 zz108 zz107 zz106 zz105 zz104 zz103 zz102 zz101 zz100 zz99 zz98 zz97 zz96 zz95 zz94 zz93 zz92 zz91 zz90 zz89 zz88 zz87 zz86 zz85 zz84 zz83 zz82 zz81 zz80 zz79 zz78 zz77 zz76 zz75 zz74 zz73 zz72 zz71 zz70 zz69 zz68 zz67 zz66 zz65 zz64 zz63 zz62 zz61 zz60 zz59 zz58 zz57 zz56 zz55 zz54 zz53 zz52 zz51 zz50 zz49 zz48 zz47 zz46 zz45 zz44 zz43 zz42 zz41 zz40 zz39 zz38 zz37 zz36 zz35 zz34 zz33 zz32 zz31 zz30 zz29 zz28 zz27 zz26 zz25 zz24 zz23 zz22 zz21 zz20 zz19 zz18 zz17 zz16 zz15 zz14 zz13 zz12 zz11 v1 u13 u14 u15 u59 u60 u61 u62 u63 u64 u65 u66 u67 u68 u69 u70 u71 u72 u73 u105 u106 u107 u108 u109 u110 u111
        go_upto_block 2 with fail
        go_cut [9, 15] (fun iv ev wr' => iv = .int .i64 I ∧ ev = .int .u8 (Pl.qE ascii q p c t) ∧ Hid (Below w2.heap.size w2 wr'))
        case first =>
          have HCO := Lib.hid HG.out.2.1
          rcases hq with rfl | rfl | rfl
          · skip
            as_aux_lemma =>
              obtain ⟨z0, hh⟩ := qw_ways0 (ascii := ascii) (p := p) (t := t) HCO.out
              rcases hh with ⟨t0, h⟩ | ⟨n0, ⟨t1, h⟩ | ⟨n1, ⟨t2, h⟩ | ⟨n2, ⟨t3, h⟩ | ⟨n3, ⟨t4, h⟩ | ⟨n4, ⟨t5, h⟩ | ⟨n5, ⟨t6, h⟩ | ⟨n6, ⟨t7, h⟩ | ⟨n7, ⟨t8, h⟩ | ⟨n8, ⟨t9, h⟩ | ⟨n9, ⟨t10, h⟩ | ⟨n10, ⟨tA, h⟩ | ⟨nA, ⟨tF, h⟩ | ⟨nF, h⟩⟩⟩⟩⟩⟩⟩⟩⟩⟩⟩⟩⟩
              · have HE := Lib.hid h
                clear h
                as_aux_lemma =>
                  go_wp2_with fail
                  all_goals go_meet
                  all_goals exact ⟨by first | rfl | (simp; done) | (simp; omega), congrArg (fun n : Nat => Value.int .u8 (n : Int)) HE.out.symm, Lib.hid (Below.refl _ _)⟩
              · have HE := Lib.hid h
                clear h
                as_aux_lemma =>
                  go_wp2_with fail
                  all_goals go_meet
                  all_goals exact ⟨by first | rfl | (simp; done) | (simp; omega), congrArg (fun n : Nat => Value.int .u8 (n : Int)) HE.out.symm, Lib.hid (Below.refl _ _)⟩
              · have HE := Lib.hid h
                clear h
                as_aux_lemma =>
                  go_wp2_with fail
                  all_goals go_meet
                  all_goals exact ⟨by first | rfl | (simp; done) | (simp; omega), congrArg (fun n : Nat => Value.int .u8 (n : Int)) HE.out.symm, Lib.hid (Below.refl _ _)⟩
              · have HE := Lib.hid h
                clear h
                as_aux_lemma =>
                  go_wp2_with fail
                  all_goals go_meet
                  all_goals exact ⟨by first | rfl | (simp; done) | (simp; omega), congrArg (fun n : Nat => Value.int .u8 (n : Int)) HE.out.symm, Lib.hid (Below.refl _ _)⟩
              · have HE := Lib.hid h
                clear h
                as_aux_lemma =>
                  go_wp2_with fail
                  all_goals go_meet
                  all_goals exact ⟨by first | rfl | (simp; done) | (simp; omega), congrArg (fun n : Nat => Value.int .u8 (n : Int)) HE.out.symm, Lib.hid (Below.refl _ _)⟩
              · have HE := Lib.hid h
                clear h
                as_aux_lemma =>
                  go_wp2_with fail
                  all_goals go_meet
                  all_goals exact ⟨by first | rfl | (simp; done) | (simp; omega), congrArg (fun n : Nat => Value.int .u8 (n : Int)) HE.out.symm, Lib.hid (Below.refl _ _)⟩
              · have HE := Lib.hid h
                clear h
                as_aux_lemma =>
                  go_wp2_with fail
                  all_goals go_meet
                  all_goals exact ⟨by first | rfl | (simp; done) | (simp; omega), congrArg (fun n : Nat => Value.int .u8 (n : Int)) HE.out.symm, Lib.hid (Below.refl _ _)⟩
              · have HE := Lib.hid h
                clear h
                as_aux_lemma =>
                  go_wp2_with fail
                  all_goals go_meet
                  all_goals exact ⟨by first | rfl | (simp; done) | (simp; omega), congrArg (fun n : Nat => Value.int .u8 (n : Int)) HE.out.symm, Lib.hid (Below.refl _ _)⟩
              · have HE := Lib.hid h
                clear h
                as_aux_lemma =>
                  go_wp2_with fail
                  all_goals go_meet
                  all_goals exact ⟨by first | rfl | (simp; done) | (simp; omega), congrArg (fun n : Nat => Value.int .u8 (n : Int)) HE.out.symm, Lib.hid (Below.refl _ _)⟩
              · have HE := Lib.hid h
                clear h
                as_aux_lemma =>
                  go_wp2_with fail
                  all_goals go_meet
                  all_goals exact ⟨by first | rfl | (simp; done) | (simp; omega), congrArg (fun n : Nat => Value.int .u8 (n : Int)) HE.out.symm, Lib.hid (Below.refl _ _)⟩
              · have HE := Lib.hid h
                clear h
                have HT2 := Lib.hid (HTB.out w2 HK2.out.below)
                have hc1 : (Pl.enc c).length = 1 := by rw [enc1 (by simp at t10; omega)]; rfl
                have HDR := Lib.hid (HTD.out hc1)
                have hsz := HSZ.out
                rw [hc1] at hsz
                have HS2 := Lib.hid hsz
                clear hsz hc1
                by_cases hI0 : I = 0
                · have HE2 := Lib.hid (show Pl.qE ascii 0 p c t = 0 by rw [HE.out, HP0.out hI0]; simp)
                  as_aux_lemma =>
                    go_wp2_with (go_at_call 74; (with_reducible refine (has_none _).mono ?_); rintro e w6 ⟨rfl, rfl⟩)
                    all_goals go_meet
                    all_goals exact ⟨by first | rfl | (simp; done) | (simp; omega), congrArg (fun n : Nat => Value.int .u8 (n : Int)) HE2.out.symm, Lib.hid (Below.refl _ _)⟩
                · obtain ⟨J, rfl⟩ : ∃ J, I = J + 1 := ⟨I - 1, by omega⟩
                  have hJx : J < x.size := by omega
                  have hbj := bt_eq hJx
                  have HL6 := Lib.hid (HLB.out J rfl)
                  by_cases h60 : bt x J = 60
                  · have t60 : ((x[J].toNat : Int) == 60) = true := by rw [hbj]; simp [h60]
                    have HP6 := Lib.hid (HL6.out.1 h60)
                    clear hbj h60
                    by_cases h5 : 5 ≤ (Pl.encs t).length
                    · have HST := style_take (x := x) (I := J + 1) HDR.out h5
                      have h6 : J + 1 + 6 ≤ x.size := by have := HS2.out; omega
                      cases hsb : Pl.styleB (Pl.encs t) with
                      | true =>
                        have HE2 := Lib.hid (show Pl.qE ascii 0 p c t = 1 by rw [HE.out, HP6.out, hsb]; simp)
                        rw [hsb] at HST
                        clear hsb h5
                        as_aux_lemma =>
                          go_wp2_with (first | (go_at_call 74; (with_reducible refine (has_none _).mono ?_); rintro e w6 ⟨rfl, rfl⟩) | (go_at_call 75; (with_reducible refine (fold_any HST.1 HT2.out HOr.out).mono ?_); rintro e w5 ⟨rfl, hb5⟩; have HB5 := Lib.hid hb5; clear hb5; rw [HST.2]))
                          all_goals go_meet
                          all_goals exact ⟨by first | rfl | (simp; done) | (simp; omega), congrArg (fun n : Nat => Value.int .u8 (n : Int)) HE2.out.symm, HB5⟩
                      | false =>
                        have HE2 := Lib.hid (show Pl.qE ascii 0 p c t = 0 by rw [HE.out, hsb]; simp)
                        rw [hsb] at HST
                        clear hsb h5
                        as_aux_lemma =>
                          go_wp2_with (first | (go_at_call 74; (with_reducible refine (has_none _).mono ?_); rintro e w6 ⟨rfl, rfl⟩) | (go_at_call 75; (with_reducible refine (fold_any HST.1 HT2.out HOr.out).mono ?_); rintro e w5 ⟨rfl, hb5⟩; have HB5 := Lib.hid hb5; clear hb5; rw [HST.2]))
                          all_goals go_meet
                          all_goals exact ⟨by first | rfl | (simp; done) | (simp; omega), congrArg (fun n : Nat => Value.int .u8 (n : Int)) HE2.out.symm, HB5⟩
                    · have HE2 := Lib.hid (show Pl.qE ascii 0 p c t = 0 by rw [HE.out, style_short h5]; simp)
                      have h6 : ¬ (J + 1 + 6 ≤ x.size) := by have := HS2.out; omega
                      clear h5
                      as_aux_lemma =>
                        go_wp2_with (go_at_call 74; (with_reducible refine (has_none _).mono ?_); rintro e w6 ⟨rfl, rfl⟩)
                        all_goals go_meet
                        all_goals exact ⟨by first | rfl | (simp; done) | (simp; omega), congrArg (fun n : Nat => Value.int .u8 (n : Int)) HE2.out.symm, Lib.hid (Below.refl _ _)⟩
                  · have t60 : ((x[J].toNat : Int) == 60) = false := by rw [hbj]; simp; omega
                    have HE2 := Lib.hid (show Pl.qE ascii 0 p c t = 0 by rw [HE.out, if_neg (fun h => h60 (HL6.out.2 h.1))])
                    clear hbj h60
                    as_aux_lemma =>
                      go_wp2_with (go_at_call 74; (with_reducible refine (has_none _).mono ?_); rintro e w6 ⟨rfl, rfl⟩)
                      all_goals go_meet
                      all_goals exact ⟨by first | rfl | (simp; done) | (simp; omega), congrArg (fun n : Nat => Value.int .u8 (n : Int)) HE2.out.symm, Lib.hid (Below.refl _ _)⟩
              · cases ascii with
                | false => simp at tA
                | true =>
                  have tB : (128 : Int) ≤ (c : Int) := by simpa using tA
                  clear tA
                  have HE := Lib.hid h
                  clear h
                  as_aux_lemma =>
                    go_wp2_with fail
                    all_goals go_meet
                    all_goals exact ⟨by first | rfl | (simp; done) | (simp; omega), congrArg (fun n : Nat => Value.int .u8 (n : Int)) HE.out.symm, Lib.hid (Below.refl _ _)⟩
              · cases ascii with
                | false =>
                  have HE := Lib.hid h
                  clear h
                  as_aux_lemma =>
                    go_wp2_with fail
                    all_goals go_meet
                    all_goals exact ⟨by first | rfl | (simp; done) | (simp; omega), congrArg (fun n : Nat => Value.int .u8 (n : Int)) HE.out.symm, Lib.hid (Below.refl _ _)⟩
                | true =>
                  have tB : (c : Int) < 128 := by simpa using nA
                  clear nA
                  have HE := Lib.hid h
                  clear h
                  as_aux_lemma =>
                    go_wp2_with fail
                    all_goals go_meet
                    all_goals exact ⟨by first | rfl | (simp; done) | (simp; omega), congrArg (fun n : Nat => Value.int .u8 (n : Int)) HE.out.symm, Lib.hid (Below.refl _ _)⟩
              · cases ascii with
                | false =>
                  have HE := Lib.hid h
                  clear h
                  as_aux_lemma =>
                    go_wp2_with fail
                    all_goals go_meet
                    all_goals exact ⟨by first | rfl | (simp; done) | (simp; omega), congrArg (fun n : Nat => Value.int .u8 (n : Int)) HE.out.symm, Lib.hid (Below.refl _ _)⟩
                | true =>
                  have tB : (c : Int) < 128 := by simpa using nA
                  clear nA
                  have HE := Lib.hid h
                  clear h
                  as_aux_lemma =>
                    go_wp2_with fail
                    all_goals go_meet
                    all_goals exact ⟨by first | rfl | (simp; done) | (simp; omega), congrArg (fun n : Nat => Value.int .u8 (n : Int)) HE.out.symm, Lib.hid (Below.refl _ _)⟩
          · skip
            as_aux_lemma =>
              obtain ⟨z0, hh⟩ := qw_ways34 (ascii := ascii) (p := p) (t := t) HCO.out
              rcases hh with ⟨t0, h⟩ | ⟨n0, ⟨t1, h⟩ | ⟨n1, ⟨t2, h⟩ | ⟨n2, ⟨t3, h⟩ | ⟨n3, ⟨t4, h⟩ | ⟨n4, ⟨t5, h⟩ | ⟨n5, ⟨t6, h⟩ | ⟨n6, ⟨t7, h⟩ | ⟨n7, ⟨t8, h⟩ | ⟨n8, ⟨t9, h⟩ | ⟨n9, ⟨t10, h⟩ | ⟨n10, ⟨tA, h⟩ | ⟨nA, ⟨tF, h⟩ | ⟨nF, h⟩⟩⟩⟩⟩⟩⟩⟩⟩⟩⟩⟩⟩
              · have HE := Lib.hid h
                clear h
                as_aux_lemma =>
                  go_wp2_with fail
                  all_goals go_meet
                  all_goals exact ⟨by first | rfl | (simp; done) | (simp; omega), congrArg (fun n : Nat => Value.int .u8 (n : Int)) HE.out.symm, Lib.hid (Below.refl _ _)⟩
              · have HE := Lib.hid h
                clear h
                as_aux_lemma =>
                  go_wp2_with fail
                  all_goals go_meet
                  all_goals exact ⟨by first | rfl | (simp; done) | (simp; omega), congrArg (fun n : Nat => Value.int .u8 (n : Int)) HE.out.symm, Lib.hid (Below.refl _ _)⟩
              · have HE := Lib.hid h
                clear h
                as_aux_lemma =>
                  go_wp2_with fail
                  all_goals go_meet
                  all_goals exact ⟨by first | rfl | (simp; done) | (simp; omega), congrArg (fun n : Nat => Value.int .u8 (n : Int)) HE.out.symm, Lib.hid (Below.refl _ _)⟩
              · have HE := Lib.hid h
                clear h
                as_aux_lemma =>
                  go_wp2_with fail
                  all_goals go_meet
                  all_goals exact ⟨by first | rfl | (simp; done) | (simp; omega), congrArg (fun n : Nat => Value.int .u8 (n : Int)) HE.out.symm, Lib.hid (Below.refl _ _)⟩
              · have HE := Lib.hid h
                clear h
                as_aux_lemma =>
                  go_wp2_with fail
                  all_goals go_meet
                  all_goals exact ⟨by first | rfl | (simp; done) | (simp; omega), congrArg (fun n : Nat => Value.int .u8 (n : Int)) HE.out.symm, Lib.hid (Below.refl _ _)⟩
              · have HE := Lib.hid h
                clear h
                as_aux_lemma =>
                  go_wp2_with fail
                  all_goals go_meet
                  all_goals exact ⟨by first | rfl | (simp; done) | (simp; omega), congrArg (fun n : Nat => Value.int .u8 (n : Int)) HE.out.symm, Lib.hid (Below.refl _ _)⟩
              · have HE := Lib.hid h
                clear h
                as_aux_lemma =>
                  go_wp2_with fail
                  all_goals go_meet
                  all_goals exact ⟨by first | rfl | (simp; done) | (simp; omega), congrArg (fun n : Nat => Value.int .u8 (n : Int)) HE.out.symm, Lib.hid (Below.refl _ _)⟩
              · have HE := Lib.hid h
                clear h
                as_aux_lemma =>
                  go_wp2_with fail
                  all_goals go_meet
                  all_goals exact ⟨by first | rfl | (simp; done) | (simp; omega), congrArg (fun n : Nat => Value.int .u8 (n : Int)) HE.out.symm, Lib.hid (Below.refl _ _)⟩
              · have HE := Lib.hid h
                clear h
                as_aux_lemma =>
                  go_wp2_with fail
                  all_goals go_meet
                  all_goals exact ⟨by first | rfl | (simp; done) | (simp; omega), congrArg (fun n : Nat => Value.int .u8 (n : Int)) HE.out.symm, Lib.hid (Below.refl _ _)⟩
              · have HE := Lib.hid h
                clear h
                as_aux_lemma =>
                  go_wp2_with fail
                  all_goals go_meet
                  all_goals exact ⟨by first | rfl | (simp; done) | (simp; omega), congrArg (fun n : Nat => Value.int .u8 (n : Int)) HE.out.symm, Lib.hid (Below.refl _ _)⟩
              · have HE := Lib.hid h
                clear h
                have HT2 := Lib.hid (HTB.out w2 HK2.out.below)
                have hc1 : (Pl.enc c).length = 1 := by rw [enc1 (by simp at t10; omega)]; rfl
                have HDR := Lib.hid (HTD.out hc1)
                have hsz := HSZ.out
                rw [hc1] at hsz
                have HS2 := Lib.hid hsz
                clear hsz hc1
                by_cases hI0 : I = 0
                · have HE2 := Lib.hid (show Pl.qE ascii 34 p c t = 0 by rw [HE.out, HP0.out hI0]; simp)
                  as_aux_lemma =>
                    go_wp2_with (go_at_call 74; (with_reducible refine (has_none _).mono ?_); rintro e w6 ⟨rfl, rfl⟩)
                    all_goals go_meet
                    all_goals exact ⟨by first | rfl | (simp; done) | (simp; omega), congrArg (fun n : Nat => Value.int .u8 (n : Int)) HE2.out.symm, Lib.hid (Below.refl _ _)⟩
                · obtain ⟨J, rfl⟩ : ∃ J, I = J + 1 := ⟨I - 1, by omega⟩
                  have hJx : J < x.size := by omega
                  have hbj := bt_eq hJx
                  have HL6 := Lib.hid (HLB.out J rfl)
                  by_cases h60 : bt x J = 60
                  · have t60 : ((x[J].toNat : Int) == 60) = true := by rw [hbj]; simp [h60]
                    have HP6 := Lib.hid (HL6.out.1 h60)
                    clear hbj h60
                    by_cases h5 : 5 ≤ (Pl.encs t).length
                    · have HST := style_take (x := x) (I := J + 1) HDR.out h5
                      have h6 : J + 1 + 6 ≤ x.size := by have := HS2.out; omega
                      cases hsb : Pl.styleB (Pl.encs t) with
                      | true =>
                        have HE2 := Lib.hid (show Pl.qE ascii 34 p c t = 1 by rw [HE.out, HP6.out, hsb]; simp)
                        rw [hsb] at HST
                        clear hsb h5
                        as_aux_lemma =>
                          go_wp2_with (first | (go_at_call 74; (with_reducible refine (has_none _).mono ?_); rintro e w6 ⟨rfl, rfl⟩) | (go_at_call 75; (with_reducible refine (fold_any HST.1 HT2.out HOr.out).mono ?_); rintro e w5 ⟨rfl, hb5⟩; have HB5 := Lib.hid hb5; clear hb5; rw [HST.2]))
                          all_goals go_meet
                          all_goals exact ⟨by first | rfl | (simp; done) | (simp; omega), congrArg (fun n : Nat => Value.int .u8 (n : Int)) HE2.out.symm, HB5⟩
                      | false =>
                        have HE2 := Lib.hid (show Pl.qE ascii 34 p c t = 0 by rw [HE.out, hsb]; simp)
                        rw [hsb] at HST
                        clear hsb h5
                        as_aux_lemma =>
                          go_wp2_with (first | (go_at_call 74; (with_reducible refine (has_none _).mono ?_); rintro e w6 ⟨rfl, rfl⟩) | (go_at_call 75; (with_reducible refine (fold_any HST.1 HT2.out HOr.out).mono ?_); rintro e w5 ⟨rfl, hb5⟩; have HB5 := Lib.hid hb5; clear hb5; rw [HST.2]))
                          all_goals go_meet
                          all_goals exact ⟨by first | rfl | (simp; done) | (simp; omega), congrArg (fun n : Nat => Value.int .u8 (n : Int)) HE2.out.symm, HB5⟩
                    · have HE2 := Lib.hid (show Pl.qE ascii 34 p c t = 0 by rw [HE.out, style_short h5]; simp)
                      have h6 : ¬ (J + 1 + 6 ≤ x.size) := by have := HS2.out; omega
                      clear h5
                      as_aux_lemma =>
                        go_wp2_with (go_at_call 74; (with_reducible refine (has_none _).mono ?_); rintro e w6 ⟨rfl, rfl⟩)
                        all_goals go_meet
                        all_goals exact ⟨by first | rfl | (simp; done) | (simp; omega), congrArg (fun n : Nat => Value.int .u8 (n : Int)) HE2.out.symm, Lib.hid (Below.refl _ _)⟩
                  · have t60 : ((x[J].toNat : Int) == 60) = false := by rw [hbj]; simp; omega
                    have HE2 := Lib.hid (show Pl.qE ascii 34 p c t = 0 by rw [HE.out, if_neg (fun h => h60 (HL6.out.2 h.1))])
                    clear hbj h60
                    as_aux_lemma =>
                      go_wp2_with (go_at_call 74; (with_reducible refine (has_none _).mono ?_); rintro e w6 ⟨rfl, rfl⟩)
                      all_goals go_meet
                      all_goals exact ⟨by first | rfl | (simp; done) | (simp; omega), congrArg (fun n : Nat => Value.int .u8 (n : Int)) HE2.out.symm, Lib.hid (Below.refl _ _)⟩
              · cases ascii with
                | false => simp at tA
                | true =>
                  have tB : (128 : Int) ≤ (c : Int) := by simpa using tA
                  clear tA
                  have HE := Lib.hid h
                  clear h
                  as_aux_lemma =>
                    go_wp2_with fail
                    all_goals go_meet
                    all_goals exact ⟨by first | rfl | (simp; done) | (simp; omega), congrArg (fun n : Nat => Value.int .u8 (n : Int)) HE.out.symm, Lib.hid (Below.refl _ _)⟩
              · cases ascii with
                | false =>
                  have HE := Lib.hid h
                  clear h
                  as_aux_lemma =>
                    go_wp2_with fail
                    all_goals go_meet
                    all_goals exact ⟨by first | rfl | (simp; done) | (simp; omega), congrArg (fun n : Nat => Value.int .u8 (n : Int)) HE.out.symm, Lib.hid (Below.refl _ _)⟩
                | true =>
                  have tB : (c : Int) < 128 := by simpa using nA
                  clear nA
                  have HE := Lib.hid h
                  clear h
                  as_aux_lemma =>
                    go_wp2_with fail
                    all_goals go_meet
                    all_goals exact ⟨by first | rfl | (simp; done) | (simp; omega), congrArg (fun n : Nat => Value.int .u8 (n : Int)) HE.out.symm, Lib.hid (Below.refl _ _)⟩
              · cases ascii with
                | false =>
                  have HE := Lib.hid h
                  clear h
                  as_aux_lemma =>
                    go_wp2_with fail
                    all_goals go_meet
                    all_goals exact ⟨by first | rfl | (simp; done) | (simp; omega), congrArg (fun n : Nat => Value.int .u8 (n : Int)) HE.out.symm, Lib.hid (Below.refl _ _)⟩
                | true =>
                  have tB : (c : Int) < 128 := by simpa using nA
                  clear nA
                  have HE := Lib.hid h
                  clear h
                  as_aux_lemma =>
                    go_wp2_with fail
                    all_goals go_meet
                    all_goals exact ⟨by first | rfl | (simp; done) | (simp; omega), congrArg (fun n : Nat => Value.int .u8 (n : Int)) HE.out.symm, Lib.hid (Below.refl _ _)⟩
          · skip
            as_aux_lemma =>
              obtain ⟨z0, hh⟩ := qw_ways39 (ascii := ascii) (p := p) (t := t) HCO.out
              rcases hh with ⟨t0, h⟩ | ⟨n0, ⟨t1, h⟩ | ⟨n1, ⟨t2, h⟩ | ⟨n2, ⟨t3, h⟩ | ⟨n3, ⟨t4, h⟩ | ⟨n4, ⟨t5, h⟩ | ⟨n5, ⟨t6, h⟩ | ⟨n6, ⟨t7, h⟩ | ⟨n7, ⟨t8, h⟩ | ⟨n8, ⟨t9, h⟩ | ⟨n9, ⟨t10, h⟩ | ⟨n10, ⟨tA, h⟩ | ⟨nA, ⟨tF, h⟩ | ⟨nF, h⟩⟩⟩⟩⟩⟩⟩⟩⟩⟩⟩⟩⟩
              · have HE := Lib.hid h
                clear h
                as_aux_lemma =>
                  go_wp2_with fail
                  all_goals go_meet
                  all_goals exact ⟨by first | rfl | (simp; done) | (simp; omega), congrArg (fun n : Nat => Value.int .u8 (n : Int)) HE.out.symm, Lib.hid (Below.refl _ _)⟩
              · have HE := Lib.hid h
                clear h
                as_aux_lemma =>
                  go_wp2_with fail
                  all_goals go_meet
                  all_goals exact ⟨by first | rfl | (simp; done) | (simp; omega), congrArg (fun n : Nat => Value.int .u8 (n : Int)) HE.out.symm, Lib.hid (Below.refl _ _)⟩
              · have HE := Lib.hid h
                clear h
                as_aux_lemma =>
                  go_wp2_with fail
                  all_goals go_meet
                  all_goals exact ⟨by first | rfl | (simp; done) | (simp; omega), congrArg (fun n : Nat => Value.int .u8 (n : Int)) HE.out.symm, Lib.hid (Below.refl _ _)⟩
              · have HE := Lib.hid h
                clear h
                as_aux_lemma =>
                  go_wp2_with fail
                  all_goals go_meet
                  all_goals exact ⟨by first | rfl | (simp; done) | (simp; omega), congrArg (fun n : Nat => Value.int .u8 (n : Int)) HE.out.symm, Lib.hid (Below.refl _ _)⟩
              · have HE := Lib.hid h
                clear h
                as_aux_lemma =>
                  go_wp2_with fail
                  all_goals go_meet
                  all_goals exact ⟨by first | rfl | (simp; done) | (simp; omega), congrArg (fun n : Nat => Value.int .u8 (n : Int)) HE.out.symm, Lib.hid (Below.refl _ _)⟩
              · have HE := Lib.hid h
                clear h
                as_aux_lemma =>
                  go_wp2_with fail
                  all_goals go_meet
                  all_goals exact ⟨by first | rfl | (simp; done) | (simp; omega), congrArg (fun n : Nat => Value.int .u8 (n : Int)) HE.out.symm, Lib.hid (Below.refl _ _)⟩
              · have HE := Lib.hid h
                clear h
                as_aux_lemma =>
                  go_wp2_with fail
                  all_goals go_meet
                  all_goals exact ⟨by first | rfl | (simp; done) | (simp; omega), congrArg (fun n : Nat => Value.int .u8 (n : Int)) HE.out.symm, Lib.hid (Below.refl _ _)⟩
              · have HE := Lib.hid h
                clear h
                as_aux_lemma =>
                  go_wp2_with fail
                  all_goals go_meet
                  all_goals exact ⟨by first | rfl | (simp; done) | (simp; omega), congrArg (fun n : Nat => Value.int .u8 (n : Int)) HE.out.symm, Lib.hid (Below.refl _ _)⟩
              · have HE := Lib.hid h
                clear h
                as_aux_lemma =>
                  go_wp2_with fail
                  all_goals go_meet
                  all_goals exact ⟨by first | rfl | (simp; done) | (simp; omega), congrArg (fun n : Nat => Value.int .u8 (n : Int)) HE.out.symm, Lib.hid (Below.refl _ _)⟩
              · have HE := Lib.hid h
                clear h
                as_aux_lemma =>
                  go_wp2_with fail
                  all_goals go_meet
                  all_goals exact ⟨by first | rfl | (simp; done) | (simp; omega), congrArg (fun n : Nat => Value.int .u8 (n : Int)) HE.out.symm, Lib.hid (Below.refl _ _)⟩
              · have HE := Lib.hid h
                clear h
                have HT2 := Lib.hid (HTB.out w2 HK2.out.below)
                have hc1 : (Pl.enc c).length = 1 := by rw [enc1 (by simp at t10; omega)]; rfl
                have HDR := Lib.hid (HTD.out hc1)
                have hsz := HSZ.out
                rw [hc1] at hsz
                have HS2 := Lib.hid hsz
                clear hsz hc1
                by_cases hI0 : I = 0
                · have HE2 := Lib.hid (show Pl.qE ascii 39 p c t = 0 by rw [HE.out, HP0.out hI0]; simp)
                  as_aux_lemma =>
                    go_wp2_with (go_at_call 74; (with_reducible refine (has_none _).mono ?_); rintro e w6 ⟨rfl, rfl⟩)
                    all_goals go_meet
                    all_goals exact ⟨by first | rfl | (simp; done) | (simp; omega), congrArg (fun n : Nat => Value.int .u8 (n : Int)) HE2.out.symm, Lib.hid (Below.refl _ _)⟩
                · obtain ⟨J, rfl⟩ : ∃ J, I = J + 1 := ⟨I - 1, by omega⟩
                  have hJx : J < x.size := by omega
                  have hbj := bt_eq hJx
                  have HL6 := Lib.hid (HLB.out J rfl)
                  by_cases h60 : bt x J = 60
                  · have t60 : ((x[J].toNat : Int) == 60) = true := by rw [hbj]; simp [h60]
                    have HP6 := Lib.hid (HL6.out.1 h60)
                    clear hbj h60
                    by_cases h5 : 5 ≤ (Pl.encs t).length
                    · have HST := style_take (x := x) (I := J + 1) HDR.out h5
                      have h6 : J + 1 + 6 ≤ x.size := by have := HS2.out; omega
                      cases hsb : Pl.styleB (Pl.encs t) with
                      | true =>
                        have HE2 := Lib.hid (show Pl.qE ascii 39 p c t = 1 by rw [HE.out, HP6.out, hsb]; simp)
                        rw [hsb] at HST
                        clear hsb h5
                        as_aux_lemma =>
                          go_wp2_with (first | (go_at_call 74; (with_reducible refine (has_none _).mono ?_); rintro e w6 ⟨rfl, rfl⟩) | (go_at_call 75; (with_reducible refine (fold_any HST.1 HT2.out HOr.out).mono ?_); rintro e w5 ⟨rfl, hb5⟩; have HB5 := Lib.hid hb5; clear hb5; rw [HST.2]))
                          all_goals go_meet
                          all_goals exact ⟨by first | rfl | (simp; done) | (simp; omega), congrArg (fun n : Nat => Value.int .u8 (n : Int)) HE2.out.symm, HB5⟩
                      | false =>
                        have HE2 := Lib.hid (show Pl.qE ascii 39 p c t = 0 by rw [HE.out, hsb]; simp)
                        rw [hsb] at HST
                        clear hsb h5
                        as_aux_lemma =>
                          go_wp2_with (first | (go_at_call 74; (with_reducible refine (has_none _).mono ?_); rintro e w6 ⟨rfl, rfl⟩) | (go_at_call 75; (with_reducible refine (fold_any HST.1 HT2.out HOr.out).mono ?_); rintro e w5 ⟨rfl, hb5⟩; have HB5 := Lib.hid hb5; clear hb5; rw [HST.2]))
                          all_goals go_meet
                          all_goals exact ⟨by first | rfl | (simp; done) | (simp; omega), congrArg (fun n : Nat => Value.int .u8 (n : Int)) HE2.out.symm, HB5⟩
                    · have HE2 := Lib.hid (show Pl.qE ascii 39 p c t = 0 by rw [HE.out, style_short h5]; simp)
                      have h6 : ¬ (J + 1 + 6 ≤ x.size) := by have := HS2.out; omega
                      clear h5
                      as_aux_lemma =>
                        go_wp2_with (go_at_call 74; (with_reducible refine (has_none _).mono ?_); rintro e w6 ⟨rfl, rfl⟩)
                        all_goals go_meet
                        all_goals exact ⟨by first | rfl | (simp; done) | (simp; omega), congrArg (fun n : Nat => Value.int .u8 (n : Int)) HE2.out.symm, Lib.hid (Below.refl _ _)⟩
                  · have t60 : ((x[J].toNat : Int) == 60) = false := by rw [hbj]; simp; omega
                    have HE2 := Lib.hid (show Pl.qE ascii 39 p c t = 0 by rw [HE.out, if_neg (fun h => h60 (HL6.out.2 h.1))])
                    clear hbj h60
                    as_aux_lemma =>
                      go_wp2_with (go_at_call 74; (with_reducible refine (has_none _).mono ?_); rintro e w6 ⟨rfl, rfl⟩)
                      all_goals go_meet
                      all_goals exact ⟨by first | rfl | (simp; done) | (simp; omega), congrArg (fun n : Nat => Value.int .u8 (n : Int)) HE2.out.symm, Lib.hid (Below.refl _ _)⟩
              · cases ascii with
                | false => simp at tA
                | true =>
                  have tB : (128 : Int) ≤ (c : Int) := by simpa using tA
                  clear tA
                  have HE := Lib.hid h
                  clear h
                  as_aux_lemma =>
                    go_wp2_with fail
                    all_goals go_meet
                    all_goals exact ⟨by first | rfl | (simp; done) | (simp; omega), congrArg (fun n : Nat => Value.int .u8 (n : Int)) HE.out.symm, Lib.hid (Below.refl _ _)⟩
              · cases ascii with
                | false =>
                  have HE := Lib.hid h
                  clear h
                  as_aux_lemma =>
                    go_wp2_with fail
                    all_goals go_meet
                    all_goals exact ⟨by first | rfl | (simp; done) | (simp; omega), congrArg (fun n : Nat => Value.int .u8 (n : Int)) HE.out.symm, Lib.hid (Below.refl _ _)⟩
                | true =>
                  have tB : (c : Int) < 128 := by simpa using nA
                  clear nA
                  have HE := Lib.hid h
                  clear h
                  as_aux_lemma =>
                    go_wp2_with fail
                    all_goals go_meet
                    all_goals exact ⟨by first | rfl | (simp; done) | (simp; omega), congrArg (fun n : Nat => Value.int .u8 (n : Int)) HE.out.symm, Lib.hid (Below.refl _ _)⟩
              · cases ascii with
                | false =>
                  have HE := Lib.hid h
                  clear h
                  as_aux_lemma =>
                    go_wp2_with fail
                    all_goals go_meet
                    all_goals exact ⟨by first | rfl | (simp; done) | (simp; omega), congrArg (fun n : Nat => Value.int .u8 (n : Int)) HE.out.symm, Lib.hid (Below.refl _ _)⟩
                | true =>
                  have tB : (c : Int) < 128 := by simpa using nA
                  clear nA
                  have HE := Lib.hid h
                  clear h
                  as_aux_lemma =>
                    go_wp2_with fail
                    all_goals go_meet
                    all_goals exact ⟨by first | rfl | (simp; done) | (simp; omega), congrArg (fun n : Nat => Value.int .u8 (n : Int)) HE.out.symm, Lib.hid (Below.refl _ _)⟩
        case rest =>
          obtain ⟨rfl, rfl, HBE⟩ := hcut
          have HP3 := Lib.hid (HPr2.keep HBE.out)
          have HK3 := Lib.hid (HK2.out.trans (Kp.fresh (T := 5) HBE.out (Nat.le_of_lt hzw2)))
          generalize hE : Pl.qE ascii q p c t = E
          have HE := Lib.hid hE
          have hE2 : E ≤ 2 := by rw [← hE]; exact Pl.qE_le _ _ _ _ _
          clear hE ca cu HPr2 HLB HTD HP0 HOr HSZ
          have hz3 : B < wc.heap.size := HP3.out.lt
          rename_i zz135 zz134 zz133 zz132 zz131 zz130 zz129 zz128 zz127 zz126 zz125 zz124 zz123 zz122 zz121 zz120 zz119 zz118 zz117 zz116 zz115 zz114 zz113 zz112 zz111 zz110 zz109 zz108 zz107 zz106 zz105 zz104 zz103 zz102 zz101 zz100 zz99 zz98 zz97 zz96 zz95 zz94 zz93 zz92 zz91 zz90 zz89 zz88 zz87 zz86 zz85 zz84 zz83 zz82 zz81 zz80 zz79 zz78 zz77 zz76 zz75 zz74 zz73 zz72 zz71 zz70 zz69 zz68 zz67 zz66 zz65 zz64 zz63 zz62 zz61 zz60 zz59 zz58 zz57 zz56 zz55 zz54 zz53 zz52 zz51 zz50 zz49 zz48 zz47 zz46 zz45 zz44 zz43 zz42 zz41 zz40 zz39 zz38 zz37 zz36 zz35 zz34 zz33 zz32 zz31 zz30 zz29 zz28 zz27 zz26 zz25 zz24 zz23 zz22 zz21 zz20 zz19 zz18 zz17 zz16 zz15 zz14 zz13 zz12 zz11 zz10 zz9 zz8 zz7 _ _ _ _ _ _; clear zz135 zz134 zz133 zz132 zz131 zz130 zz129 zz128 zz127 zz126 zz125 zz124 zz123 zz122 zz121 zz120 zz119 zz118 zz117 zz116 zz115 zz114 zz113 zz112 zz111 zz110 zz109 zz108 zz107 zz106 zz105 u112 zz104 zz103 zz102 zz101 zz100 zz99 zz98 zz97 zz96 zz95 zz94 zz93 zz92 zz91 zz90 zz89 zz88 zz87 zz86 zz85 zz84 zz83 zz82 zz81 zz80 zz79 zz78 zz77 zz76 zz75 zz74 zz73 zz72 zz71 zz70 zz69 zz68 zz67 zz66 zz65 zz64 zz63 zz62 zz61 zz60 zz59 zz58 zz57 zz56 zz55 zz54 zz53 zz52 zz51 zz50 zz49 zz48 zz47 zz46 zz45 zz44 zz43 zz42 zz41 zz40 zz39 zz38 zz37 zz36 zz35 zz34 zz33 zz32 zz31 zz30 zz29 zz28 zz27 zz26 zz25 zz24 zz23 zz22 zz21 zz20 zz19 zz18 zz17 zz16 zz15 zz14 zz13 zz12 zz11 zz10 zz9 zz8 zz7
          by_cases h0 : E = 0
          · subst h0
            have HR4 := Lib.hid (show r = a1 ++ (a2 ++ [c]) ++ t by rw [HR.out]; simp)
            have HL4 := Lib.hid (q_grow0 HL.out)
            have HO4 := Lib.hid (show d1 ++ Pl.encs (Pl.innerF ascii q r) = D ++ Pl.encs (a2 ++ [c]) ++ Pl.encs (Pl.outF (Pl.qItems ascii q (a1 ++ (a2 ++ [c])).getLast? t) false) from by
              rw [← List.append_assoc, last_snoc]
              exact qi_raw (by rw [← HPP.out]; exact HO.out) HE.out)
            as_aux_lemma =>
              go_wp2_with fail
              go_roundg t.length
              case measure => exact Nat.lt_succ_self _
              case rel => exact ⟨a1, a2 ++ [c], t, D, u, rfl, by rw [← List.append_assoc, HGN.out.1, HII.out]; simp, rfl, HR4, HL4, HP3, HK3, HO4⟩
          · have hE0 : ((E : Int) == 0) = false := by simp [h0]
            have H0 := Lib.hid h0
            clear h0
            go_upto_if 185 with fail
            have HG5 := Lib.hid (by have := HG.out; rw [HII.out] at this; exact this : Str (x.extract I x.size) (c :: t) ∧ Pl.Ok c ∧ (∀ y ∈ t, Pl.Ok y) ∧ (x.extract I x.size).size ≤ x.size)
            have HMID := Lib.hid (by have := q_mid (x := x) (a1 := a1) (a2 := a2) (t := c :: t) (by rw [← HR.out]; exact HX.out); rw [HII.out] at this; exact this : (x.extract (Pl.encs a1).length I).data.toList = Pl.encs a2 ∧ (x.extract (Pl.encs a1).length I).size = (Pl.encs a2).length)
            have hIa : (Pl.encs a1).length ≤ I := by have := HII.out; rw [Pl.encs_append, List.length_append] at this; omega
            have hsm := q_small HL.out hd hs
            have hIx : I ≤ x.size := by omega
            go_cut [] (fun wr' => Hid (∃ u2, Pr wr' B ascii u2 (D ++ Pl.encs a2)) ∧ Hid (Kp 5 B w wr'))
            case first =>
              cases hc2 : a2 with
              | nil =>
                have hlt : ¬ (Pl.encs a1).length < I := by have := HII.out; rw [hc2, List.append_nil] at this; omega
                have HC2 := Lib.hid hc2
                clear hc2
                as_aux_lemma =>
                  go_wp2_with fail
                  go_meet
                  exact ⟨Lib.hid ⟨u, by rw [HC2.out]; simpa [Pl.encs] using HP3.out⟩, HK3⟩
              | cons y l =>
                have hmp : 0 < (Pl.encs a2).length := by rw [hc2, Pl.encs_cons, List.length_append]; have := enc_len_pos y; omega
                have hlt : (Pl.encs a1).length < I := by have := HII.out; rw [Pl.encs_append, List.length_append] at this; omega
                clear hc2
                go_upto_region 45 with fail
                have HOW := Lib.hid (HP3.out.drew.own : wc.drew.ownsRow (B + 1) 5 1 u D.length (Lib.byteCells D))
                have HKK := Lib.hid (fun (w3 : World) (g : wc.drew.grownBy w3 (Value.ownBlock u)) => HP3.out.drew.kept g)
                have c15 := HP3.out.css
                have f15 := HP3.out.free 15
                go_region_law (refine step_append_str rfl (.tmp 190) (.tmp 194) 31 9 rfl (B + 1) 5 i0 Tryf.underlying31 Tryf.underlying9 hi hz0 hz1 hz2 u D.length (Lib.byteCells D) (by simp [Act.eval, Act.put]) HOW.out (x.extract (Pl.encs a1).length I) (by simp [Act.eval, Act.put]) _ HMID.out.2 hmp (by unfold maxLen; omega) (by omega) (by simp; omega) ?_; intro g cap w3 hown3 hgrow3; obtain ⟨c3, f3⟩ := HKK.out _ hgrow3)
                as_aux_lemma =>
                  go_wp2_with fail
                  go_meet
                  have hpa := HP3.out.drew.app (x := (x.extract (Pl.encs a1).length I).data.toList) hgrow3 hown3 (by rw [List.length_append, HMID.out.1]) (by rw [Lib.byteCells_append]; rfl)
                  rw [HMID.out.1] at hpa
                  exact ⟨Lib.hid ⟨_, hpa⟩, Lib.hid (HK3.out.drew.trans (HP3.out.drew.kp hgrow3 _))⟩
            case rest =>
              obtain ⟨HP4, HK4⟩ := hcut
              obtain ⟨u2, hp4⟩ := HP4.out
              have HPW := Lib.hid (pwe_any (may := false) hp4 (q_good HE.out HG5.out.2.1) (by rw [List.length_append]; exact hsm) HG5.out.1 HG5.out.2.2.1 (Nat.le_trans HG5.out.2.2.2 hs) (show F.told.answers wc.tape from by rw [HK4.out.below.tape]; exact HF.out))
              have HR5 := Lib.hid (show r = (a1 ++ a2 ++ [c]) ++ [] ++ t from by rw [HR.out]; simp)
              have HL5 := Lib.hid (q_grow1 HL.out HG5.out.2.1 hE2)
              have HN5 := Lib.hid (show (Pl.encs (a1 ++ a2 ++ [c])).length = I + (Pl.enc c).length from by rw [HGN.out.1, HII.out])
              have HO5 := Lib.hid (show d1 ++ Pl.encs (Pl.innerF ascii q r) = (D ++ Pl.encs a2 ++ Pl.encs (Pl.pweF c E t.head? false)) ++ Pl.encs [] ++ Pl.encs (Pl.outF (Pl.qItems ascii q ((a1 ++ a2 ++ [c]) ++ []).getLast? t) false) from by
                rw [List.append_nil, last_snoc]
                exact qi_esc (by rw [← HPP.out]; exact HO.out) HE.out)
              clear hp4 HP4 HG HMID HGN
              as_aux_lemma =>
                go_wp2_with (go_at_call 69; (with_reducible refine HPW.out.mono ?_); rintro e w5 ⟨rfl, ⟨u5, hp5⟩, hk5⟩)
                go_roundg t.length
                case measure => exact Nat.lt_succ_self _
                case rel => exact ⟨a1 ++ a2 ++ [c], [], t, _, u5, rfl, by rw [List.append_nil, HN5.out]; simp, by rw [HN5.out]; simp, HR5, HL5, Lib.hid hp5, Lib.hid (HK4.out.trans hk5), HO5⟩
end Go.Proofs.YtmomkkakjkkakaaFmt
