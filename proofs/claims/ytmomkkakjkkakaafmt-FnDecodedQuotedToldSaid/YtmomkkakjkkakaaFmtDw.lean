/-
  WALK of decodeEscapesInToken: the code points that decF gives.
-/
import Derived.Test.YtmomkkakjkkakaaFmtSt
import Derived.Deep.LoopGhost
import Derived.Deep.Cut
set_option linter.unusedVariables false
set_option linter.unusedSimpArgs false
set_option maxRecDepth 100000
namespace Go.Proofs.YtmomkkakjkkakaaFmt
open Go.RowKit

theorem encs_len_le (l : List Nat) : (Pl.encs l).length ≤ 4 * l.length := by
  induction l with
  | nil => simp [Pl.encs]
  | cons c r ih => rw [Pl.encs_cons, List.length_append]; have := enc_len_le c; simp only [List.length_cons]; omega

set_option maxHeartbeats 8000000 in
theorem decEsc_any (r : List Nat) (w : World) (hok : ∀ c ∈ r, Pl.Ok c) (hs : (Pl.encs r).length ≤ 1099511627776) (hT : Tabs w) :
    Calls Tryf.prog 50 #[.string (S (Pl.encs r))] w fun e w' => e = .returned (.string (S (Pl.encs (Pl.decF r)))) ∧ Below w.heap.size w w' := by
  obtain ⟨s, hse⟩ : ∃ s, s = S (Pl.encs r) := ⟨_, rfl⟩
  have hsz : s.size = (Pl.encs r).length := by rw [hse, S_size]
  have hbt : ∀ j, (bt s j = 92 ↔ (Pl.encs r).getD j 0 = 92) ∧ (bt s j = 0 ↔ (Pl.encs r).getD j 0 = 0) := by
    intro j
    unfold bt
    rw [hse, S_data]
    constructor <;> constructor <;> intro h
    · exact UInt8.toNat_inj.mp h
    · rw [h]; rfl
    · exact UInt8.toNat_inj.mp h
    · rw [h]; rfl
  have hrl : r.length ≤ 1099511627776 := by have := encs_len_ge r; omega
  rw [← hse]
  have HS := Lib.hid hse
  have HB := Lib.hid hbt
  have HZ := Lib.hid hsz
  have HO := Lib.hid hok
  rw [← hsz] at hs
  clear hse hbt hsz hok
  go_enter Tryf.func50, Tryf.ntmps50
  go_wp2_with fail
  go_loopg [3] s.size (fun k iv wr => ∃ (j : Nat), k = s.size - j ∧ j ≤ s.size ∧ iv = .int .i64 j ∧ wr = w ∧ Hid (∀ x, x < j → bt s x ≠ 92))
  case atStart => exact ⟨0, rfl, Nat.zero_le _, rfl, rfl, Lib.hid (fun x h => by omega)⟩
  case round =>
    obtain ⟨j, rfl, hj, rfl, hwe, HI⟩ := hrel
    subst wr
    by_cases hlt : j < s.size
    · have hl : decide ((j : Int) < s.size) = true := by simp; omega
      by_cases h9 : bt s j = 92 ∨ bt s j = 0
      · obtain ⟨a, t, e1, e2, e3⟩ := first_back r j HO.out (by rw [← HZ.out]; exact hlt) (fun x hx => by have := HI.out x hx; rwa [Ne, (HB.out x).1] at this) (by rw [← (HB.out j).1, ← (HB.out j).2]; exact h9)
        have h92 : bt s j = 92 := by
          rw [(HB.out j).1, e1, Pl.encs_append, Pl.encs_cons, ← e2, show Pl.enc 92 = [92] from enc1 (by omega), List.getD_eq_getElem?_getD, List.getElem?_append_right (Nat.le_refl _)]
          simp
        have hb : ((s[j].toNat : Int) == 92) = true := by rw [bt_eq hlt]; simp; omega
        clear h9 h92
        have hne : ((j : Int) == s.size) = false := by simp; omega
        have hpre : Str (s.extract 0 j) a := by rw [← e2, HS.out, e1]; exact (Str.of _).pre
        have hsuf : Str (s.extract j s.size) (92 :: t) := by rw [← e2, HS.out, e1]; exact (Str.of _).suf
        have hps : (s.extract 0 j).size ≤ 1099511627776 := by rw [hpre.size, e2]; omega
        have hst0 := St.fresh hT
        have hal : a.length + (92 :: t).length = r.length := by rw [e1, List.length_append]
        have H1 := Lib.hid (show Pl.decF r = a ++ Pl.decF (92 :: t) by rw [e1]; exact decF_pre a _ e3)
        have HO2 := Lib.hid (show ∀ c ∈ (92 :: t), Pl.Ok c from fun c hc => HO.out c (by rw [e1]; exact List.mem_append_right _ hc))
        clear e1 e3 e2
        go_wp2_with (go_at_call 76; refine (str_st (by assumption) (by assumption) (by simp; omega)).mono ?_; rintro e w' ⟨⟨_, rfl⟩, hst'⟩)
        rw [List.nil_append] at hst'
        clear hst0 hpre hps
        go_loopg [0] (t.length + 1) (fun k xv wq => ∃ (r' : List Nat) (d : List Nat) (x : ByteArray), k = r'.length ∧ xv = .string x ∧ Str x r' ∧ St w wq (Pl.encs d) ∧ d.length + r'.length ≤ r.length ∧
          Hid (Pl.decF r = d ++ Pl.decF r' ∧ ∀ c ∈ r', Pl.Ok c))
        case atStart => exact ⟨92 :: t, a, _, rfl, rfl, hsuf, hst', by omega, Lib.hid ⟨H1.out, HO2.out⟩⟩
        case round =>
          clear hst' hsuf
          obtain ⟨r', d, x, rfl, rfl, hx, hst, hdl, HE⟩ := hrel
          have hdb : (Pl.encs d).length ≤ 70368744177664 := by have := encs_len_le d; omega
          cases r' with
          | nil =>
            obtain rfl := hx.nil
            go_wp2_with (go_at_call 80; refine (out_st (by assumption)).mono ?_; rintro e w' ⟨rfl, hb'⟩)
            go_ret
            exact ⟨by have := HE.out.1; rw [Pl.decF_nil, List.append_nil] at this; rw [this]; rfl, hb'⟩
          | cons c r' =>
            have hxs := hx.pos
            have hcl := enc_len_pos c
            have hxl : x.size ≤ 4398046511104 := by have := hx.size; have := encs_len_le (c :: r'); omega
            have h0 : 0 < x.size := by omega
            obtain ⟨hE, hOk⟩ := HE.out
            have hc : Pl.Sc c := (hOk c (by simp)).1
            have hc1 : c ≤ 1114111 := by have := hc; unfold Pl.Sc at this; omega
            have hcz : ((c : Int) == 0) = false := by have := (hOk c (by simp)).2; simp; omega
            have HK := Lib.hid hOk
            have HE2 := Lib.hid hE
            have hx1 := hx.tail
            clear hE hOk HE
            by_cases h92 : c = 92
            · subst h92
              have b92 : (((92 : Nat) : Int) != 92) = false := rfl
              go_upto_region 14 with (first | (go_at_call 73; refine (dec_st (by assumption) (by assumption) (by assumption)).mono ?_; rintro e w' ⟨rfl, hst'⟩) | (go_at_call 77; refine (rune_st (by assumption) (by omega) (by omega) (by omega)).mono ?_; rintro e w' ⟨⟨_, rfl⟩, hst'⟩))
              generalize x.extract (Pl.enc 92).length x.size = x1 at hx1 ⊢
              have hst := hst'
              clear hst'
              cases r' with
              | nil =>
                have h10 : ((x1.size : Int) == 0) = true := by rw [hx1.size0]; rfl
                go_wp2_with (first | (go_at_call 73; refine (dec_st (by assumption) (by assumption) (by assumption)).mono ?_; rintro e w' ⟨rfl, hst'⟩) | (go_at_call 77; refine (rune_st (by assumption) (by omega) (by omega) (by omega)).mono ?_; rintro e w' ⟨⟨_, rfl⟩, hst'⟩))
                go_roundg 0
                case measure => simp
                case rel => exact ⟨[], d ++ [65533], _, rfl, rfl, hx1, hst', by simp only [List.length_append, List.length_cons, List.length_nil] at hdl ⊢; omega, Lib.hid ⟨by rw [HE2.out, Pl.decF_last (by simp) rfl rfl, Pl.decF_nil, List.append_nil], by simp⟩⟩
              | cons g u =>
                have hxs1 := hx1.pos
                have hgl := enc_len_pos g
                have h10 : ((x1.size : Int) == 0) = false := by simp only [beq_eq_false_iff_ne]; omega
                have hgo := HK.out g (by simp)
                have hgs : Pl.Sc g := hgo.1
                have hg1 : g ≤ 1114111 := by have := hgs; unfold Pl.Sc at this; omega
                have hx2 := hx1.tail
                have HKu := Lib.hid (show ∀ c ∈ u, Pl.Ok c from fun c hc => HK.out c (List.mem_cons_of_mem _ (List.mem_cons_of_mem _ hc)))
                have hdl' : d.length + 1 + u.length ≤ r.length := by simp only [List.length_cons] at hdl; omega
                clear hgo hdl
                by_cases hxg : 0 ≤ Pl.hexv g
                have hgl2 := hexv_le g
                · have bx : decide (0 ≤ Pl.hexv g) = true := by simp [hxg]
                  have HG := Lib.hid hxg
                  have eR := hexR_yes hxg
                  go_upto_region 22 with (first | (go_at_call 73; refine (dec_st (by assumption) (by assumption) (by assumption)).mono ?_; rintro e w' ⟨rfl, hst'⟩) | (go_at_call 78; refine (isHex_any _ (by omega) (by omega) _).mono ?_; rintro e w' ⟨rfl, rfl⟩))
                  generalize x1.extract (Pl.enc g).length x1.size = x2 at hx2 ⊢
                  have hst2 := hst'
                  clear hst' hst
                  go_wp2_with (go_at_call 78; refine (isHex_any _ (by omega) (by omega) _).mono ?_; rintro e w' ⟨rfl, rfl⟩)
                  go_loopg [0, 8, 10] 5 (fun k xv av iv wq => ∃ (n : Nat) (acc : Int) (u' : List Nat) (x3 : ByteArray), n = k ∧ xv = .string x3 ∧ av = .int .i64 acc ∧ iv = .int .i64 (5 - (n : Int)) ∧ n ≤ 5 ∧ Str x3 u' ∧ St w wq (Pl.encs d) ∧ 0 ≤ acc ∧ acc < capN n ∧
                    Hid (Pl.hexN 5 (Pl.hexv g) u = Pl.hexN n acc u' ∧ u'.length ≤ u.length ∧ ∀ c ∈ u', Pl.Ok c))
                  case atStart => exact ⟨5, _, u, x2, rfl, rfl, rfl, rfl, by omega, hx2, hst2, hxg, by show _ < (16 : Int) ^ 1; omega, Lib.hid ⟨rfl, Nat.le_refl _, HKu.out⟩⟩
                  case round =>
                    clear hst2 hx2 HKu
                    obtain ⟨n, acc, u', x3, rfl, rfl, rfl, rfl, hn5, hx3, hst, ha0, hac, HQ⟩ := hrel
                    have hcap := capN_le hn5
                    cases n with
                    | zero =>
                      have HX := Lib.hid (show Pl.hexN 5 (Pl.hexv g) u = (acc, u') from HQ.out.1)
                      have HL := Lib.hid HQ.out.2.1
                      have HKu := Lib.hid HQ.out.2.2
                      have bi : decide ((5 : Int) - ((0 : Nat) : Int) < 5) = false := by simp
                      cases u' with
                      | nil =>
                        obtain rfl := hx3.nil
                        have HKR := Lib.hid (show ∀ c ∈ ([] : List Nat), Pl.Ok c by simp)
                        go_upto_region 42 with fail
                        have hst' := hst
                        have HD := Lib.hid (show Pl.decF r = d ++ (Pl.fixv acc :: Pl.decF []) by rw [HE2.out, decF_b_hex u HG.out, HX.out]; rfl)
                        by_cases f0 : acc = 0
                        · have q1 : (acc == 0) = true := by simp [f0]
                          have F0 := Lib.hid f0
                          go_wp2_with (go_at_call 77; refine (rune_st (by assumption) (by omega) (by omega) (by omega)).mono ?_; rintro e w' ⟨⟨_, rfl⟩, hst'⟩)
                          go_roundg 0
                          case measure => have := HL.out; simp only [List.length_cons] at this ⊢; omega
                          case rel => exact ⟨[], d ++ [65533], _, rfl, rfl, hx3, hst', by have := HL.out; simp only [List.length_append, List.length_cons, List.length_nil] at this ⊢; omega, Lib.hid ⟨by rw [HD.out, fixv_bad (by omega), List.append_assoc]; rfl, HKR.out⟩⟩
                        have q1 : (acc == 0) = false := by simp [f0]
                        by_cases f1 : 55296 ≤ acc
                        · have q2 : decide (55296 ≤ acc) = true := by simp [f1]
                          by_cases f2 : acc ≤ 57343
                          · have q3 : decide (acc ≤ 57343) = true := by simp [f2]
                            go_wp2_with (go_at_call 77; refine (rune_st (by assumption) (by omega) (by omega) (by omega)).mono ?_; rintro e w' ⟨⟨_, rfl⟩, hst'⟩)
                            go_roundg 0
                            case measure => have := HL.out; simp only [List.length_cons] at this ⊢; omega
                            case rel => exact ⟨[], d ++ [65533], _, rfl, rfl, hx3, hst', by have := HL.out; simp only [List.length_append, List.length_cons, List.length_nil] at this ⊢; omega, Lib.hid ⟨by rw [HD.out, fixv_bad (by omega), List.append_assoc]; rfl, HKR.out⟩⟩
                          have q3 : decide (acc ≤ 57343) = false := by simp; omega
                          by_cases f3 : 1114111 < acc
                          · have q4 : decide (1114111 < acc) = true := by simp [f3]
                            go_wp2_with (go_at_call 77; refine (rune_st (by assumption) (by omega) (by omega) (by omega)).mono ?_; rintro e w' ⟨⟨_, rfl⟩, hst'⟩)
                            go_roundg 0
                            case measure => have := HL.out; simp only [List.length_cons] at this ⊢; omega
                            case rel => exact ⟨[], d ++ [65533], _, rfl, rfl, hx3, hst', by have := HL.out; simp only [List.length_append, List.length_cons, List.length_nil] at this ⊢; omega, Lib.hid ⟨by rw [HD.out, fixv_bad (by omega), List.append_assoc]; rfl, HKR.out⟩⟩
                          · have q4 : decide (1114111 < acc) = false := by simp; omega
                            go_wp2_with (go_at_call 77; refine (rune_st (by assumption) (by omega) (by omega) (by omega)).mono ?_; rintro e w' ⟨⟨_, rfl⟩, hst'⟩)
                            go_roundg 0
                            case measure => have := HL.out; simp only [List.length_cons] at this ⊢; omega
                            case rel => exact ⟨[], d ++ [acc.toNat], _, rfl, rfl, hx3, hst', by have := HL.out; simp only [List.length_append, List.length_cons, List.length_nil] at this ⊢; omega, Lib.hid ⟨by rw [HD.out, fixv_ok (by omega), List.append_assoc]; rfl, HKR.out⟩⟩
                        · have q2 : decide (55296 ≤ acc) = false := by simp; omega
                          have q4 : decide (1114111 < acc) = false := by simp; omega
                          go_wp2_with (go_at_call 77; refine (rune_st (by assumption) (by omega) (by omega) (by omega)).mono ?_; rintro e w' ⟨⟨_, rfl⟩, hst'⟩)
                          go_roundg 0
                          case measure => have := HL.out; simp only [List.length_cons] at this ⊢; omega
                          case rel => exact ⟨[], d ++ [acc.toNat], _, rfl, rfl, hx3, hst', by have := HL.out; simp only [List.length_append, List.length_cons, List.length_nil] at this ⊢; omega, Lib.hid ⟨by rw [HD.out, fixv_ok (by omega), List.append_assoc]; rfl, HKR.out⟩⟩
                      | cons y v =>
                        have hxs3 := hx3.pos
                        have hyo := HKu.out y (by simp)
                        have hys : Pl.Sc y := hyo.1
                        have hy1 : y ≤ 1114111 := by have := hys; unfold Pl.Sc at this; omega
                        have hx3l : x3.size ≤ 4398046511104 := by have := hx3.size; have := encs_len_le (y :: v); have := HL.out; omega
                        clear hyo
                        have bz : 0 < x3.size := by have := enc_len_pos y; omega
                        have hx4 := hx3.tail
                        by_cases hw : Pl.isSp y = true
                        · have HW := Lib.hid hw
                          have HKR := Lib.hid (show ∀ c ∈ v, Pl.Ok c from fun c hc => HKu.out c (List.mem_cons_of_mem _ hc))
                          go_upto_region 42 with (first | (go_at_call 73; refine (dec_st (by assumption) (by assumption) (by assumption)).mono ?_; rintro e w' ⟨rfl, hst'⟩) | (go_at_call 78; refine (isHex_any _ (by omega) (by omega) _).mono ?_; rintro e w' ⟨rfl, rfl⟩) | (go_at_call 79; refine (isWs_any _ _).mono ?_; rintro e w' ⟨rfl, rfl⟩))
                          have HD := Lib.hid (show Pl.decF r = d ++ (Pl.fixv acc :: Pl.decF v) by rw [HE2.out, decF_b_hex u HG.out, HX.out]; rw [if_pos (by exact HW.out)]; rfl)
                          by_cases f0 : acc = 0
                          · have q1 : (acc == 0) = true := by simp [f0]
                            have F0 := Lib.hid f0
                            go_wp2_with (go_at_call 77; refine (rune_st (by assumption) (by omega) (by omega) (by omega)).mono ?_; rintro e w' ⟨⟨_, rfl⟩, hst'⟩)
                            go_roundg (v).length
                            case measure => have := HL.out; simp only [List.length_cons] at this ⊢; omega
                            case rel => exact ⟨v, d ++ [65533], _, rfl, rfl, hx4, hst', by have := HL.out; simp only [List.length_append, List.length_cons, List.length_nil] at this ⊢; omega, Lib.hid ⟨by rw [HD.out, fixv_bad (by omega), List.append_assoc]; rfl, HKR.out⟩⟩
                          have q1 : (acc == 0) = false := by simp [f0]
                          by_cases f1 : 55296 ≤ acc
                          · have q2 : decide (55296 ≤ acc) = true := by simp [f1]
                            by_cases f2 : acc ≤ 57343
                            · have q3 : decide (acc ≤ 57343) = true := by simp [f2]
                              go_wp2_with (go_at_call 77; refine (rune_st (by assumption) (by omega) (by omega) (by omega)).mono ?_; rintro e w' ⟨⟨_, rfl⟩, hst'⟩)
                              go_roundg (v).length
                              case measure => have := HL.out; simp only [List.length_cons] at this ⊢; omega
                              case rel => exact ⟨v, d ++ [65533], _, rfl, rfl, hx4, hst', by have := HL.out; simp only [List.length_append, List.length_cons, List.length_nil] at this ⊢; omega, Lib.hid ⟨by rw [HD.out, fixv_bad (by omega), List.append_assoc]; rfl, HKR.out⟩⟩
                            have q3 : decide (acc ≤ 57343) = false := by simp; omega
                            by_cases f3 : 1114111 < acc
                            · have q4 : decide (1114111 < acc) = true := by simp [f3]
                              go_wp2_with (go_at_call 77; refine (rune_st (by assumption) (by omega) (by omega) (by omega)).mono ?_; rintro e w' ⟨⟨_, rfl⟩, hst'⟩)
                              go_roundg (v).length
                              case measure => have := HL.out; simp only [List.length_cons] at this ⊢; omega
                              case rel => exact ⟨v, d ++ [65533], _, rfl, rfl, hx4, hst', by have := HL.out; simp only [List.length_append, List.length_cons, List.length_nil] at this ⊢; omega, Lib.hid ⟨by rw [HD.out, fixv_bad (by omega), List.append_assoc]; rfl, HKR.out⟩⟩
                            · have q4 : decide (1114111 < acc) = false := by simp; omega
                              go_wp2_with (go_at_call 77; refine (rune_st (by assumption) (by omega) (by omega) (by omega)).mono ?_; rintro e w' ⟨⟨_, rfl⟩, hst'⟩)
                              go_roundg (v).length
                              case measure => have := HL.out; simp only [List.length_cons] at this ⊢; omega
                              case rel => exact ⟨v, d ++ [acc.toNat], _, rfl, rfl, hx4, hst', by have := HL.out; simp only [List.length_append, List.length_cons, List.length_nil] at this ⊢; omega, Lib.hid ⟨by rw [HD.out, fixv_ok (by omega), List.append_assoc]; rfl, HKR.out⟩⟩
                          · have q2 : decide (55296 ≤ acc) = false := by simp; omega
                            have q4 : decide (1114111 < acc) = false := by simp; omega
                            go_wp2_with (go_at_call 77; refine (rune_st (by assumption) (by omega) (by omega) (by omega)).mono ?_; rintro e w' ⟨⟨_, rfl⟩, hst'⟩)
                            go_roundg (v).length
                            case measure => have := HL.out; simp only [List.length_cons] at this ⊢; omega
                            case rel => exact ⟨v, d ++ [acc.toNat], _, rfl, rfl, hx4, hst', by have := HL.out; simp only [List.length_append, List.length_cons, List.length_nil] at this ⊢; omega, Lib.hid ⟨by rw [HD.out, fixv_ok (by omega), List.append_assoc]; rfl, HKR.out⟩⟩
                        · have hw : Pl.isSp y = false := by simpa using hw
                          have HW := Lib.hid hw
                          have HKR := Lib.hid HKu.out
                          go_upto_region 42 with (first | (go_at_call 73; refine (dec_st (by assumption) (by assumption) (by assumption)).mono ?_; rintro e w' ⟨rfl, hst'⟩) | (go_at_call 78; refine (isHex_any _ (by omega) (by omega) _).mono ?_; rintro e w' ⟨rfl, rfl⟩) | (go_at_call 79; refine (isWs_any _ _).mono ?_; rintro e w' ⟨rfl, rfl⟩))
                          have HD := Lib.hid (show Pl.decF r = d ++ (Pl.fixv acc :: Pl.decF (y :: v)) by rw [HE2.out, decF_b_hex u HG.out, HX.out]; rw [if_neg (by have := HW.out; simpa [Pl.pk] using this)])
                          by_cases f0 : acc = 0
                          · have q1 : (acc == 0) = true := by simp [f0]
                            have F0 := Lib.hid f0
                            go_wp2_with (go_at_call 77; refine (rune_st (by assumption) (by omega) (by omega) (by omega)).mono ?_; rintro e w' ⟨⟨_, rfl⟩, hst'⟩)
                            go_roundg (y :: v).length
                            case measure => have := HL.out; simp only [List.length_cons] at this ⊢; omega
                            case rel => exact ⟨y :: v, d ++ [65533], _, rfl, rfl, hx3, hst', by have := HL.out; simp only [List.length_append, List.length_cons, List.length_nil] at this ⊢; omega, Lib.hid ⟨by rw [HD.out, fixv_bad (by omega), List.append_assoc]; rfl, HKR.out⟩⟩
                          have q1 : (acc == 0) = false := by simp [f0]
                          by_cases f1 : 55296 ≤ acc
                          · have q2 : decide (55296 ≤ acc) = true := by simp [f1]
                            by_cases f2 : acc ≤ 57343
                            · have q3 : decide (acc ≤ 57343) = true := by simp [f2]
                              go_wp2_with (go_at_call 77; refine (rune_st (by assumption) (by omega) (by omega) (by omega)).mono ?_; rintro e w' ⟨⟨_, rfl⟩, hst'⟩)
                              go_roundg (y :: v).length
                              case measure => have := HL.out; simp only [List.length_cons] at this ⊢; omega
                              case rel => exact ⟨y :: v, d ++ [65533], _, rfl, rfl, hx3, hst', by have := HL.out; simp only [List.length_append, List.length_cons, List.length_nil] at this ⊢; omega, Lib.hid ⟨by rw [HD.out, fixv_bad (by omega), List.append_assoc]; rfl, HKR.out⟩⟩
                            have q3 : decide (acc ≤ 57343) = false := by simp; omega
                            by_cases f3 : 1114111 < acc
                            · have q4 : decide (1114111 < acc) = true := by simp [f3]
                              go_wp2_with (go_at_call 77; refine (rune_st (by assumption) (by omega) (by omega) (by omega)).mono ?_; rintro e w' ⟨⟨_, rfl⟩, hst'⟩)
                              go_roundg (y :: v).length
                              case measure => have := HL.out; simp only [List.length_cons] at this ⊢; omega
                              case rel => exact ⟨y :: v, d ++ [65533], _, rfl, rfl, hx3, hst', by have := HL.out; simp only [List.length_append, List.length_cons, List.length_nil] at this ⊢; omega, Lib.hid ⟨by rw [HD.out, fixv_bad (by omega), List.append_assoc]; rfl, HKR.out⟩⟩
                            · have q4 : decide (1114111 < acc) = false := by simp; omega
                              go_wp2_with (go_at_call 77; refine (rune_st (by assumption) (by omega) (by omega) (by omega)).mono ?_; rintro e w' ⟨⟨_, rfl⟩, hst'⟩)
                              go_roundg (y :: v).length
                              case measure => have := HL.out; simp only [List.length_cons] at this ⊢; omega
                              case rel => exact ⟨y :: v, d ++ [acc.toNat], _, rfl, rfl, hx3, hst', by have := HL.out; simp only [List.length_append, List.length_cons, List.length_nil] at this ⊢; omega, Lib.hid ⟨by rw [HD.out, fixv_ok (by omega), List.append_assoc]; rfl, HKR.out⟩⟩
                          · have q2 : decide (55296 ≤ acc) = false := by simp; omega
                            have q4 : decide (1114111 < acc) = false := by simp; omega
                            go_wp2_with (go_at_call 77; refine (rune_st (by assumption) (by omega) (by omega) (by omega)).mono ?_; rintro e w' ⟨⟨_, rfl⟩, hst'⟩)
                            go_roundg (y :: v).length
                            case measure => have := HL.out; simp only [List.length_cons] at this ⊢; omega
                            case rel => exact ⟨y :: v, d ++ [acc.toNat], _, rfl, rfl, hx3, hst', by have := HL.out; simp only [List.length_append, List.length_cons, List.length_nil] at this ⊢; omega, Lib.hid ⟨by rw [HD.out, fixv_ok (by omega), List.append_assoc]; rfl, HKR.out⟩⟩
                    | succ m =>
                      have bi : decide ((5 : Int) - ((m + 1 : Nat) : Int) < 5) = true := by simp; omega
                      cases u' with
                      | nil =>
                        have HX := Lib.hid (HQ.out.1.trans (hexN_nil _ _))
                        have HL := Lib.hid HQ.out.2.1
                        obtain rfl := hx3.nil
                        have HKR := Lib.hid (show ∀ c ∈ ([] : List Nat), Pl.Ok c by simp)
                        go_upto_region 42 with fail
                        have hst' := hst
                        have HD := Lib.hid (show Pl.decF r = d ++ (Pl.fixv acc :: Pl.decF []) by rw [HE2.out, decF_b_hex u HG.out, HX.out]; rfl)
                        by_cases f0 : acc = 0
                        · have q1 : (acc == 0) = true := by simp [f0]
                          have F0 := Lib.hid f0
                          go_wp2_with (go_at_call 77; refine (rune_st (by assumption) (by omega) (by omega) (by omega)).mono ?_; rintro e w' ⟨⟨_, rfl⟩, hst'⟩)
                          go_roundg 0
                          case measure => have := HL.out; simp only [List.length_cons] at this ⊢; omega
                          case rel => exact ⟨[], d ++ [65533], _, rfl, rfl, hx3, hst', by have := HL.out; simp only [List.length_append, List.length_cons, List.length_nil] at this ⊢; omega, Lib.hid ⟨by rw [HD.out, fixv_bad (by omega), List.append_assoc]; rfl, HKR.out⟩⟩
                        have q1 : (acc == 0) = false := by simp [f0]
                        by_cases f1 : 55296 ≤ acc
                        · have q2 : decide (55296 ≤ acc) = true := by simp [f1]
                          by_cases f2 : acc ≤ 57343
                          · have q3 : decide (acc ≤ 57343) = true := by simp [f2]
                            go_wp2_with (go_at_call 77; refine (rune_st (by assumption) (by omega) (by omega) (by omega)).mono ?_; rintro e w' ⟨⟨_, rfl⟩, hst'⟩)
                            go_roundg 0
                            case measure => have := HL.out; simp only [List.length_cons] at this ⊢; omega
                            case rel => exact ⟨[], d ++ [65533], _, rfl, rfl, hx3, hst', by have := HL.out; simp only [List.length_append, List.length_cons, List.length_nil] at this ⊢; omega, Lib.hid ⟨by rw [HD.out, fixv_bad (by omega), List.append_assoc]; rfl, HKR.out⟩⟩
                          have q3 : decide (acc ≤ 57343) = false := by simp; omega
                          by_cases f3 : 1114111 < acc
                          · have q4 : decide (1114111 < acc) = true := by simp [f3]
                            go_wp2_with (go_at_call 77; refine (rune_st (by assumption) (by omega) (by omega) (by omega)).mono ?_; rintro e w' ⟨⟨_, rfl⟩, hst'⟩)
                            go_roundg 0
                            case measure => have := HL.out; simp only [List.length_cons] at this ⊢; omega
                            case rel => exact ⟨[], d ++ [65533], _, rfl, rfl, hx3, hst', by have := HL.out; simp only [List.length_append, List.length_cons, List.length_nil] at this ⊢; omega, Lib.hid ⟨by rw [HD.out, fixv_bad (by omega), List.append_assoc]; rfl, HKR.out⟩⟩
                          · have q4 : decide (1114111 < acc) = false := by simp; omega
                            go_wp2_with (go_at_call 77; refine (rune_st (by assumption) (by omega) (by omega) (by omega)).mono ?_; rintro e w' ⟨⟨_, rfl⟩, hst'⟩)
                            go_roundg 0
                            case measure => have := HL.out; simp only [List.length_cons] at this ⊢; omega
                            case rel => exact ⟨[], d ++ [acc.toNat], _, rfl, rfl, hx3, hst', by have := HL.out; simp only [List.length_append, List.length_cons, List.length_nil] at this ⊢; omega, Lib.hid ⟨by rw [HD.out, fixv_ok (by omega), List.append_assoc]; rfl, HKR.out⟩⟩
                        · have q2 : decide (55296 ≤ acc) = false := by simp; omega
                          have q4 : decide (1114111 < acc) = false := by simp; omega
                          go_wp2_with (go_at_call 77; refine (rune_st (by assumption) (by omega) (by omega) (by omega)).mono ?_; rintro e w' ⟨⟨_, rfl⟩, hst'⟩)
                          go_roundg 0
                          case measure => have := HL.out; simp only [List.length_cons] at this ⊢; omega
                          case rel => exact ⟨[], d ++ [acc.toNat], _, rfl, rfl, hx3, hst', by have := HL.out; simp only [List.length_append, List.length_cons, List.length_nil] at this ⊢; omega, Lib.hid ⟨by rw [HD.out, fixv_ok (by omega), List.append_assoc]; rfl, HKR.out⟩⟩
                      | cons y v =>
                        have hxs3 := hx3.pos
                        have hyo := HQ.out.2.2 y (by simp)
                        have hys : Pl.Sc y := hyo.1
                        have hy1 : y ≤ 1114111 := by have := hys; unfold Pl.Sc at this; omega
                        have hx3l : x3.size ≤ 4398046511104 := by have := hx3.size; have := encs_len_le (y :: v); have := HQ.out.2.1; omega
                        clear hyo
                        have bz : 0 < x3.size := by have := enc_len_pos y; omega
                        by_cases hxy : 0 ≤ Pl.hexv y
                        · have by1 : decide (0 ≤ Pl.hexv y) = true := by simp [hxy]
                          have eR := hexR_yes hxy
                          have hyl := hexv_le y
                          have hx4 := hx3.tail
                          have hcs := capN_step hn5
                          have hcp := capN_le (n := m) (by omega)
                          have HX := Lib.hid (HQ.out.1.trans (hexN_yes hxy))
                          go_wp2_with (first | (go_at_call 73; refine (dec_st (by assumption) (by assumption) (by assumption)).mono ?_; rintro e w' ⟨rfl, hst'⟩) | (go_at_call 78; refine (isHex_any _ (by omega) (by omega) _).mono ?_; rintro e w' ⟨rfl, rfl⟩))
                          go_roundg m
                          case measure => omega
                          case rel => exact ⟨m, acc * 16 + Pl.hexv y, v, _, rfl, rfl, rfl, by simp; omega, by omega, hx4, hst', by omega, by omega, Lib.hid ⟨HX.out, by have := HQ.out.2.1; simp only [List.length_cons] at this; omega, fun c hc => HQ.out.2.2 c (List.mem_cons_of_mem _ hc)⟩⟩
                        · have by1 : decide (0 ≤ Pl.hexv y) = false := by simp; omega
                          have HX := Lib.hid (HQ.out.1.trans (hexN_no (by omega)))
                          have HL := Lib.hid HQ.out.2.1
                          have HKu := Lib.hid HQ.out.2.2
                          have hx4 := hx3.tail
                          by_cases hw : Pl.isSp y = true
                          · have HW := Lib.hid hw
                            have HKR := Lib.hid (show ∀ c ∈ v, Pl.Ok c from fun c hc => HKu.out c (List.mem_cons_of_mem _ hc))
                            go_upto_region 42 with (first | (go_at_call 73; refine (dec_st (by assumption) (by assumption) (by assumption)).mono ?_; rintro e w' ⟨rfl, hst'⟩) | (go_at_call 78; refine (isHex_any _ (by omega) (by omega) _).mono ?_; rintro e w' ⟨rfl, rfl⟩) | (go_at_call 79; refine (isWs_any _ _).mono ?_; rintro e w' ⟨rfl, rfl⟩))
                            have HD := Lib.hid (show Pl.decF r = d ++ (Pl.fixv acc :: Pl.decF v) by rw [HE2.out, decF_b_hex u HG.out, HX.out]; rw [if_pos (by exact HW.out)]; rfl)
                            by_cases f0 : acc = 0
                            · have q1 : (acc == 0) = true := by simp [f0]
                              have F0 := Lib.hid f0
                              go_wp2_with (go_at_call 77; refine (rune_st (by assumption) (by omega) (by omega) (by omega)).mono ?_; rintro e w' ⟨⟨_, rfl⟩, hst'⟩)
                              go_roundg (v).length
                              case measure => have := HL.out; simp only [List.length_cons] at this ⊢; omega
                              case rel => exact ⟨v, d ++ [65533], _, rfl, rfl, hx4, hst', by have := HL.out; simp only [List.length_append, List.length_cons, List.length_nil] at this ⊢; omega, Lib.hid ⟨by rw [HD.out, fixv_bad (by omega), List.append_assoc]; rfl, HKR.out⟩⟩
                            have q1 : (acc == 0) = false := by simp [f0]
                            by_cases f1 : 55296 ≤ acc
                            · have q2 : decide (55296 ≤ acc) = true := by simp [f1]
                              by_cases f2 : acc ≤ 57343
                              · have q3 : decide (acc ≤ 57343) = true := by simp [f2]
                                go_wp2_with (go_at_call 77; refine (rune_st (by assumption) (by omega) (by omega) (by omega)).mono ?_; rintro e w' ⟨⟨_, rfl⟩, hst'⟩)
                                go_roundg (v).length
                                case measure => have := HL.out; simp only [List.length_cons] at this ⊢; omega
                                case rel => exact ⟨v, d ++ [65533], _, rfl, rfl, hx4, hst', by have := HL.out; simp only [List.length_append, List.length_cons, List.length_nil] at this ⊢; omega, Lib.hid ⟨by rw [HD.out, fixv_bad (by omega), List.append_assoc]; rfl, HKR.out⟩⟩
                              have q3 : decide (acc ≤ 57343) = false := by simp; omega
                              by_cases f3 : 1114111 < acc
                              · have q4 : decide (1114111 < acc) = true := by simp [f3]
                                go_wp2_with (go_at_call 77; refine (rune_st (by assumption) (by omega) (by omega) (by omega)).mono ?_; rintro e w' ⟨⟨_, rfl⟩, hst'⟩)
                                go_roundg (v).length
                                case measure => have := HL.out; simp only [List.length_cons] at this ⊢; omega
                                case rel => exact ⟨v, d ++ [65533], _, rfl, rfl, hx4, hst', by have := HL.out; simp only [List.length_append, List.length_cons, List.length_nil] at this ⊢; omega, Lib.hid ⟨by rw [HD.out, fixv_bad (by omega), List.append_assoc]; rfl, HKR.out⟩⟩
                              · have q4 : decide (1114111 < acc) = false := by simp; omega
                                go_wp2_with (go_at_call 77; refine (rune_st (by assumption) (by omega) (by omega) (by omega)).mono ?_; rintro e w' ⟨⟨_, rfl⟩, hst'⟩)
                                go_roundg (v).length
                                case measure => have := HL.out; simp only [List.length_cons] at this ⊢; omega
                                case rel => exact ⟨v, d ++ [acc.toNat], _, rfl, rfl, hx4, hst', by have := HL.out; simp only [List.length_append, List.length_cons, List.length_nil] at this ⊢; omega, Lib.hid ⟨by rw [HD.out, fixv_ok (by omega), List.append_assoc]; rfl, HKR.out⟩⟩
                            · have q2 : decide (55296 ≤ acc) = false := by simp; omega
                              have q4 : decide (1114111 < acc) = false := by simp; omega
                              go_wp2_with (go_at_call 77; refine (rune_st (by assumption) (by omega) (by omega) (by omega)).mono ?_; rintro e w' ⟨⟨_, rfl⟩, hst'⟩)
                              go_roundg (v).length
                              case measure => have := HL.out; simp only [List.length_cons] at this ⊢; omega
                              case rel => exact ⟨v, d ++ [acc.toNat], _, rfl, rfl, hx4, hst', by have := HL.out; simp only [List.length_append, List.length_cons, List.length_nil] at this ⊢; omega, Lib.hid ⟨by rw [HD.out, fixv_ok (by omega), List.append_assoc]; rfl, HKR.out⟩⟩
                          · have hw : Pl.isSp y = false := by simpa using hw
                            have HW := Lib.hid hw
                            have HKR := Lib.hid HKu.out
                            go_upto_region 42 with (first | (go_at_call 73; refine (dec_st (by assumption) (by assumption) (by assumption)).mono ?_; rintro e w' ⟨rfl, hst'⟩) | (go_at_call 78; refine (isHex_any _ (by omega) (by omega) _).mono ?_; rintro e w' ⟨rfl, rfl⟩) | (go_at_call 79; refine (isWs_any _ _).mono ?_; rintro e w' ⟨rfl, rfl⟩))
                            have HD := Lib.hid (show Pl.decF r = d ++ (Pl.fixv acc :: Pl.decF (y :: v)) by rw [HE2.out, decF_b_hex u HG.out, HX.out]; rw [if_neg (by have := HW.out; simpa [Pl.pk] using this)])
                            by_cases f0 : acc = 0
                            · have q1 : (acc == 0) = true := by simp [f0]
                              have F0 := Lib.hid f0
                              go_wp2_with (go_at_call 77; refine (rune_st (by assumption) (by omega) (by omega) (by omega)).mono ?_; rintro e w' ⟨⟨_, rfl⟩, hst'⟩)
                              go_roundg (y :: v).length
                              case measure => have := HL.out; simp only [List.length_cons] at this ⊢; omega
                              case rel => exact ⟨y :: v, d ++ [65533], _, rfl, rfl, hx3, hst', by have := HL.out; simp only [List.length_append, List.length_cons, List.length_nil] at this ⊢; omega, Lib.hid ⟨by rw [HD.out, fixv_bad (by omega), List.append_assoc]; rfl, HKR.out⟩⟩
                            have q1 : (acc == 0) = false := by simp [f0]
                            by_cases f1 : 55296 ≤ acc
                            · have q2 : decide (55296 ≤ acc) = true := by simp [f1]
                              by_cases f2 : acc ≤ 57343
                              · have q3 : decide (acc ≤ 57343) = true := by simp [f2]
                                go_wp2_with (go_at_call 77; refine (rune_st (by assumption) (by omega) (by omega) (by omega)).mono ?_; rintro e w' ⟨⟨_, rfl⟩, hst'⟩)
                                go_roundg (y :: v).length
                                case measure => have := HL.out; simp only [List.length_cons] at this ⊢; omega
                                case rel => exact ⟨y :: v, d ++ [65533], _, rfl, rfl, hx3, hst', by have := HL.out; simp only [List.length_append, List.length_cons, List.length_nil] at this ⊢; omega, Lib.hid ⟨by rw [HD.out, fixv_bad (by omega), List.append_assoc]; rfl, HKR.out⟩⟩
                              have q3 : decide (acc ≤ 57343) = false := by simp; omega
                              by_cases f3 : 1114111 < acc
                              · have q4 : decide (1114111 < acc) = true := by simp [f3]
                                go_wp2_with (go_at_call 77; refine (rune_st (by assumption) (by omega) (by omega) (by omega)).mono ?_; rintro e w' ⟨⟨_, rfl⟩, hst'⟩)
                                go_roundg (y :: v).length
                                case measure => have := HL.out; simp only [List.length_cons] at this ⊢; omega
                                case rel => exact ⟨y :: v, d ++ [65533], _, rfl, rfl, hx3, hst', by have := HL.out; simp only [List.length_append, List.length_cons, List.length_nil] at this ⊢; omega, Lib.hid ⟨by rw [HD.out, fixv_bad (by omega), List.append_assoc]; rfl, HKR.out⟩⟩
                              · have q4 : decide (1114111 < acc) = false := by simp; omega
                                go_wp2_with (go_at_call 77; refine (rune_st (by assumption) (by omega) (by omega) (by omega)).mono ?_; rintro e w' ⟨⟨_, rfl⟩, hst'⟩)
                                go_roundg (y :: v).length
                                case measure => have := HL.out; simp only [List.length_cons] at this ⊢; omega
                                case rel => exact ⟨y :: v, d ++ [acc.toNat], _, rfl, rfl, hx3, hst', by have := HL.out; simp only [List.length_append, List.length_cons, List.length_nil] at this ⊢; omega, Lib.hid ⟨by rw [HD.out, fixv_ok (by omega), List.append_assoc]; rfl, HKR.out⟩⟩
                            · have q2 : decide (55296 ≤ acc) = false := by simp; omega
                              have q4 : decide (1114111 < acc) = false := by simp; omega
                              go_wp2_with (go_at_call 77; refine (rune_st (by assumption) (by omega) (by omega) (by omega)).mono ?_; rintro e w' ⟨⟨_, rfl⟩, hst'⟩)
                              go_roundg (y :: v).length
                              case measure => have := HL.out; simp only [List.length_cons] at this ⊢; omega
                              case rel => exact ⟨y :: v, d ++ [acc.toNat], _, rfl, rfl, hx3, hst', by have := HL.out; simp only [List.length_append, List.length_cons, List.length_nil] at this ⊢; omega, Lib.hid ⟨by rw [HD.out, fixv_ok (by omega), List.append_assoc]; rfl, HKR.out⟩⟩
                · have bx : decide (0 ≤ Pl.hexv g) = false := by simp; omega
                  have HXG := Lib.hid (show Pl.hexv g < 0 by omega)
                  clear hxg
                  by_cases hnl : g = 10 ∨ g = 12
                  · have HN := Lib.hid hnl
                    by_cases h0a : g = 10
                    · have b10 : ((g : Int) == 10) = true := by simp; omega
                      clear h0a
                      clear hnl
                      go_wp2_with (first | (go_at_call 73; refine (dec_st (by assumption) (by assumption) (by assumption)).mono ?_; rintro e w' ⟨rfl, hst'⟩) | (go_at_call 78; refine (isHex_any _ (by omega) (by omega) _).mono ?_; rintro e w' ⟨rfl, rfl⟩))
                      go_roundg u.length
                      case measure => simp only [List.length_cons]; omega
                      case rel => exact ⟨u, d, _, rfl, rfl, hx2, hst', by (try simp only [List.length_append, List.length_cons, List.length_nil] at hdl' ⊢); omega, Lib.hid ⟨by rw [HE2.out, decF_b_nl u HN.out], HKu.out⟩⟩
                    · have b10 : ((g : Int) == 10) = false := by simp; omega
                      have b12 : ((g : Int) == 12) = true := by simp; omega
                      clear h0a
                      clear hnl
                      go_wp2_with (first | (go_at_call 73; refine (dec_st (by assumption) (by assumption) (by assumption)).mono ?_; rintro e w' ⟨rfl, hst'⟩) | (go_at_call 78; refine (isHex_any _ (by omega) (by omega) _).mono ?_; rintro e w' ⟨rfl, rfl⟩))
                      go_roundg u.length
                      case measure => simp only [List.length_cons]; omega
                      case rel => exact ⟨u, d, _, rfl, rfl, hx2, hst', by (try simp only [List.length_append, List.length_cons, List.length_nil] at hdl' ⊢); omega, Lib.hid ⟨by rw [HE2.out, decF_b_nl u HN.out], HKu.out⟩⟩
                  · have b10 : ((g : Int) == 10) = false := by simp; omega
                    have b12 : ((g : Int) == 12) = false := by simp; omega
                    by_cases h13 : g = 13
                    · have b13 : ((g : Int) == 13) = true := by simp; omega
                      have H13 := Lib.hid h13
                      clear h13 hnl
                      go_upto_region 22 with (first | (go_at_call 73; refine (dec_st (by assumption) (by assumption) (by assumption)).mono ?_; rintro e w' ⟨rfl, hst'⟩) | (go_at_call 78; refine (isHex_any _ (by omega) (by omega) _).mono ?_; rintro e w' ⟨rfl, rfl⟩))
                      generalize x1.extract (Pl.enc g).length x1.size = x2 at hx2 ⊢
                      have hst2 := hst'
                      clear hst' hst
                      cases u with
                      | nil =>
                        go_wp2_with (first | (go_at_call 78; refine (isHex_any _ (by omega) (by omega) _).mono ?_; rintro e w' ⟨rfl, rfl⟩) | (go_at_call 73; refine (dec0_st (by assumption) (by assumption)).mono ?_; rintro e w' ⟨rfl, hst'⟩))
                        go_roundg 0
                        case measure => simp
                        case rel => exact ⟨[], d, _, rfl, rfl, hx2, hst', by simp only [List.length_nil]; omega, Lib.hid ⟨by rw [HE2.out, H13.out, decF_b_cr0, Pl.decF_nil], by simp⟩⟩
                      | cons y v =>
                        have hxs2 := hx2.pos
                        have hyo := HKu.out y (by simp)
                        have hys : Pl.Sc y := hyo.1
                        have hx3 := hx2.tail
                        clear hyo
                        by_cases hy : y = 10
                        · have by1 : ((y : Int) == 10) = true := by simp; omega
                          have HY := Lib.hid hy
                          clear hy
                          go_wp2_with (first | (go_at_call 78; refine (isHex_any _ (by omega) (by omega) _).mono ?_; rintro e w' ⟨rfl, rfl⟩) | (go_at_call 73; refine (dec_st (by assumption) (by assumption) (by assumption)).mono ?_; rintro e w' ⟨rfl, hst'⟩))
                          go_roundg v.length
                          case measure => simp only [List.length_cons]; omega
                          case rel => exact ⟨v, d, _, rfl, rfl, hx3, hst', by simp only [List.length_cons] at hdl'; omega, Lib.hid ⟨by rw [HE2.out, H13.out, HY.out, decF_b_crlf], fun x hx => HKu.out x (List.mem_cons_of_mem _ hx)⟩⟩
                        · have by1 : ((y : Int) == 10) = false := by simp; omega
                          have HY := Lib.hid hy
                          clear hy
                          go_wp2_with (first | (go_at_call 78; refine (isHex_any _ (by omega) (by omega) _).mono ?_; rintro e w' ⟨rfl, rfl⟩) | (go_at_call 73; refine (dec_st (by assumption) (by assumption) (by assumption)).mono ?_; rintro e w' ⟨rfl, hst'⟩))
                          go_roundg (v.length + 1)
                          case measure => simp only [List.length_cons]; omega
                          case rel => exact ⟨y :: v, d, _, rfl, rfl, hx2, hst', by simp only [List.length_cons] at hdl' ⊢; omega, Lib.hid ⟨by rw [HE2.out, H13.out, decF_b_cr v HY.out], HKu.out⟩⟩
                    · have b13 : ((g : Int) == 13) = false := by simp; omega
                      have H13 := Lib.hid h13
                      have HN := Lib.hid hnl
                      clear h13 hnl
                      go_wp2_with (first | (go_at_call 73; refine (dec_st (by assumption) (by assumption) (by assumption)).mono ?_; rintro e w' ⟨rfl, hst'⟩) | (go_at_call 78; refine (isHex_any _ (by omega) (by omega) _).mono ?_; rintro e w' ⟨rfl, rfl⟩) | (go_at_call 77; refine (rune_st (by assumption) (by omega) (by omega) (by omega)).mono ?_; rintro e w' ⟨⟨_, rfl⟩, hst'⟩))
                      go_roundg u.length
                      case measure => simp only [List.length_cons]; omega
                      case rel => exact ⟨u, d ++ [g], _, rfl, rfl, hx2, hst', by simp only [List.length_append, List.length_cons, List.length_nil]; omega, Lib.hid ⟨by rw [HE2.out, decF_b_back u HXG.out (fun e => HN.out (Or.inl e)) (fun e => HN.out (Or.inr e)) H13.out, List.append_assoc]; rfl, HKu.out⟩⟩
            · have b92 : ((c : Int) != 92) = true := by simp; omega
              go_wp2_with (first | (go_at_call 73; refine (dec_st (by assumption) (by assumption) (by assumption)).mono ?_; rintro e w' ⟨rfl, hst'⟩) | (go_at_call 77; refine (rune_st (by assumption) (by omega) (by omega) (by omega)).mono ?_; rintro e w' ⟨⟨_, rfl⟩, hst'⟩))
              go_roundg r'.length
              case measure => simp
              case rel => exact ⟨r', d ++ [c], _, rfl, rfl, hx1, hst', by simp only [List.length_append, List.length_cons, List.length_nil] at hdl ⊢; omega, Lib.hid ⟨by rw [HE2.out, Pl.decF_char (by simp) (by rw [Pl.pk_cons]; omega), Pl.pk_cons, List.tail_cons, List.append_assoc]; rfl, fun x hx => HK.out x (List.mem_cons_of_mem _ hx)⟩⟩
      · have b1 : ((s[j].toNat : Int) == 92) = false := by rw [bt_eq hlt]; simp; omega
        have b2 : ((s[j].toNat : Int) == 0) = false := by rw [bt_eq hlt]; simp; omega
        have H9 := Lib.hid h9
        clear h9
        go_wp2_with fail
        go_roundg (s.size - (j + 1))
        case measure => omega
        case rel => exact ⟨j + 1, rfl, by omega, by simp, rfl, Lib.hid (fun x hx => by
          rcases Nat.lt_or_ge x j with h | h
          · exact HI.out x h
          · obtain rfl : x = j := by omega
            exact fun e => H9.out (Or.inl e))⟩
    · have hl : decide ((j : Int) < s.size) = false := by simp; omega
      have he : ((j : Int) == s.size) = true := by simp; omega
      have hd : Pl.decF r = r := decF_same r (no_back r HO.out (fun x hx => by rw [Ne, ← (HB.out x).1]; exact HI.out x (by have := HZ.out; omega)))
      have HD := Lib.hid hd
      clear hd
      go_wp2_with fail
      go_ret
      exact ⟨by rw [HD.out, ← HS.out]; rfl, Below.refl _ _⟩
end Go.Proofs.YtmomkkakjkkakaaFmt
