/-
  WALK of printIdent.
-/
import Derived.Test.YtmomkkakjkkakaaFmtPil
import Derived.Test.YtmomkkakjkkakaaFmtPwe
import Derived.ScopeJumps
import Derived.WalkMore
import Derived.Stop.Texts
import Derived.Deep.CutBlock
set_option linter.unusedVariables false
set_option linter.unusedSimpArgs false
set_option maxRecDepth 100000
namespace Go.Proofs.YtmomkkakjkkakaaFmt
open Go.RowKit Go.Kit Go.Extern.Stop Go.Stop Go.Extern

theorem initE_unit {mode : Nat} (hm : mode = 2 ∨ mode = 3) {r : List Nat} (hw : Pl.wouldStart r = true) :
    Pl.initE mode r = if (Pl.pk r 0 = 101 ∨ Pl.pk r 0 = 69) ∧ mode ≠ 3 ∧ (Pl.digB (Pl.pk r 1) = true ∨ (Pl.pk r 1 = 45 ∧ Pl.digB (Pl.pk r 2) = true)) then 2 else 0 := by
  unfold Pl.initE
  rw [if_neg (by omega), if_neg (by simp [hw]), if_neg (by omega)]
theorem wp_scope_fore {P : Program} {c : Code} {K : Act → World → Prop} {Q' : Exit → Act → World → Prop} {a : Act} {w : World} (l : Nat) (hf : findLabel c l = some Code.skip)
    (first : ∀ Qs : Exit → Act → World → Prop, (∀ a w, K a w → Qs (.goto l) a w) → (∀ a w, Q' .ret a w → Qs .ret a w) → c.wp P Qs a w) : (Code.scope c).wp P (Exit.then K Q') a w :=
  wp_scope_jumps l K (fun _ _ => 0) hf (first _ (fun _ _ h => ⟨rfl, h⟩) (fun _ _ h => h)) (fun _ _ h => wp_skip h)
theorem enc_nz {c : Nat} (h : Pl.Ok c) : ∀ b ∈ Pl.enc c, 0 < b.toNat := by
  have hc := h.1
  have h0 := h.2
  unfold Pl.Sc at hc
  intro b hb
  rcases Nat.lt_or_ge c 128 with g1 | g1
  · rw [enc1 g1] at hb; simp at hb; subst hb; simp; omega
  rcases Nat.lt_or_ge c 2048 with g2 | g2
  · rw [enc2 g1 g2] at hb; simp at hb; rcases hb with rfl | rfl <;> simp <;> omega
  rcases Nat.lt_or_ge c 65536 with g3 | g3
  · rw [enc3 (by omega)] at hb; simp at hb; rcases hb with rfl | rfl | rfl <;> simp <;> omega
  · rw [enc4 g3 (by omega)] at hb; simp at hb; rcases hb with rfl | rfl | rfl | rfl <;> simp <;> omega
theorem byte_nz {x : ByteArray} {r : List Nat} (h : Str x r) (hok : ∀ c ∈ r, Pl.Ok c) {j : Nat} (hj : j < x.size) : 0 < (x[j]).toNat := by
  have hm : x[j] ∈ Pl.encs r := by
    rw [← h.txt]
    have : x[j] = x.data.toList[j]'(by rw [Array.length_toList]; exact hj) := by simp; rfl
    rw [this]; exact List.getElem_mem _
  unfold Pl.encs at hm
  obtain ⟨c, hc, hb⟩ := List.mem_flatMap.mp hm
  exact enc_nz (hok c hc) _ hb
/-- is a byte a sign of names that is printed as it is -/
def fastB (x : ByteArray) (j : Nat) : Prop := bt x j < 128 ∧ Pl.contsB (bt x j) = true
structure ByteIn (x : ByteArray) (j : Nat) (h : j < x.size) : Prop where
  pos : 0 < (x[j].toNat : Int)
  le : (x[j].toNat : Int) ≤ 1114111
  wrap : wrap32 (x[j].toNat : Int) = (x[j].toNat : Int)
  lt : (j : Int) < (x.size : Int)
theorem byte_in {x : ByteArray} {r : List Nat} (hx : Str x r) (hok : ∀ c ∈ r, Pl.Ok c) {j : Nat} (hj : j < x.size) : ByteIn x j hj := by
  have h0 := byte_nz hx hok hj
  have h1 := UInt8.toNat_lt x[j]
  exact ⟨by omega, by omega, by unfold wrap32; omega, by omega⟩
theorem fast_cases {x : ByteArray} {j : Nat} (h : j < x.size) : (decide (128 ≤ (x[j].toNat : Int)) = false ∧ Pl.contsB (x[j].toNat : Int) = true ∧ fastB x j) ∨
    (decide (128 ≤ (x[j].toNat : Int)) = true ∧ ¬ fastB x j) ∨ (decide (128 ≤ (x[j].toNat : Int)) = false ∧ Pl.contsB (x[j].toNat : Int) = false ∧ ¬ fastB x j) := by
  have hb := bt_eq h
  unfold fastB
  simp only [decide_eq_true_eq, decide_eq_false_iff_not]
  rw [hb]
  by_cases h1 : bt x j < 128
  · by_cases h2 : Pl.contsB (bt x j : Int) = true
    · exact .inl ⟨by omega, h2, h1, h2⟩
    · exact .inr (.inr ⟨by omega, by simpa using h2, fun h => h2 h.2⟩)
  · exact .inr (.inl ⟨by omega, fun h => h1 h.1⟩)
theorem fast_more {x : ByteArray} {j : Nat} (h : ∀ i, i < j → fastB x i) (hj : fastB x j) : ∀ i, i < j + 1 → fastB x i := fun i hi => by
  rcases Nat.lt_or_ge i j with q | q
  · exact h i q
  · obtain rfl : i = j := by omega
    exact hj
theorem not_lt_in {x : ByteArray} {j : Nat} (h : ¬ j < x.size) : ¬ ((j : Int) < (x.size : Int)) := by omega
/-- one sign of the text -/
structure IdRound (x : ByteArray) (a : List Nat) (c : Nat) (t : List Nat) : Prop where
  lt : (Pl.encs a).length < x.size
  dec : Utf8.decode x (Pl.encs a).length = (c, (Pl.enc c).length)
  str : Str (x.extract (Pl.encs a).length x.size) (c :: t)
  last : (((Pl.encs a).length : Int) + (Pl.enc c).length == (x.size : Int)) = decide (t = [])
  fst : (((Pl.encs a).length : Int) == 0) = decide (a = [])
  ok : Pl.Ok c
  okt : ∀ y ∈ t, Pl.Ok y
  le : c ≤ 1114111
  pos : 0 < (c : Int)
  hi : (c : Int) ≤ 1114111
  ilt : ((Pl.encs a).length : Int) < (x.size : Int)
  ile : ((Pl.encs a).length : Int) ≤ (x.size : Int)
  sz : (x.extract (Pl.encs a).length x.size).size ≤ x.size
  fits : (Pl.encs a).length + (Pl.enc c).length ≤ x.size
  nxt : (Pl.encs (a ++ [c])).length = (Pl.encs a).length + (Pl.enc c).length
theorem encs_nil_iff (t : List Nat) : (Pl.encs t).length = 0 ↔ t = [] := by
  cases t with
  | nil => simp [Pl.encs]
  | cons c t => have := enc_len_pos c; rw [Pl.encs_cons, List.length_append]; exact ⟨fun h => by omega, fun h => by cases h⟩
theorem id_round {x : ByteArray} {a : List Nat} {c : Nat} {t : List Nat} (hx : Str x (a ++ c :: t)) (hok : ∀ d ∈ a ++ c :: t, Pl.Ok d) : IdRound x a c t := by
  have hsz := hx.size
  rw [Pl.encs_append, Pl.encs_cons, List.length_append, List.length_append] at hsz
  have hp := enc_len_pos c
  have hco : Pl.Ok c := hok c (by simp)
  have hc1 : c ≤ 1114111 := by have := hco.1; unfold Pl.Sc at this; omega
  have hc0 := hco.2
  have hn := encs_nil_iff t
  have ha := encs_nil_iff a
  refine ⟨by omega, dec_at hco.1 (T := Pl.encs t) (by rw [hx.txt, Pl.encs_append, List.drop_left, Pl.encs_cons]), hx.suf, ?_, ?_, hco, fun y hy => hok y (by simp [hy]), hc1, by omega, by omega, by omega, by omega, ?_, by omega, ?_⟩
  · rw [Bool.eq_iff_iff]; simp only [beq_iff_eq, decide_eq_true_eq]; rw [← hn]; omega
  · rw [Bool.eq_iff_iff]; simp only [beq_iff_eq, decide_eq_true_eq]; rw [← ha]; omega
  · rw [ByteArray.size_extract]; omega
  · rw [Pl.encs_append, List.length_append, Pl.encs_cons, Pl.encs_nil, List.append_nil]
theorem id_end {x : ByteArray} {a : List Nat} (hx : Str x (a ++ [])) : ¬ (Pl.encs a).length < x.size := by
  rw [hx.size, List.append_nil]; omega
/-- how a sign is escaped: the ways of the code -/
theorem id_ways {ascii : Bool} {c i i' : Nat} {a : List Nat} (hz : i' = if a = [] then i else 0) :
    ((ascii && decide (128 ≤ (c : Int))) = true ∧ Pl.idE ascii i' c = 2) ∨ ((ascii && decide (128 ≤ (c : Int))) = false ∧
    ((((c : Int) == 13) = true ∧ Pl.idE ascii i' c = 2) ∨ (((c : Int) == 13) = false ∧
    ((((c : Int) == 10) = true ∧ Pl.idE ascii i' c = 2) ∨ (((c : Int) == 10) = false ∧
    ((((c : Int) == 12) = true ∧ Pl.idE ascii i' c = 2) ∨ (((c : Int) == 12) = false ∧
    ((((c : Int) == 65279) = true ∧ Pl.idE ascii i' c = 2) ∨ (((c : Int) == 65279) = false ∧
    ((decide (a = []) = true ∧ ((i : Int) == 0) = false ∧ Pl.idE ascii i' c = i) ∨
     (decide (a = []) = true ∧ ((i : Int) == 0) = true ∧ Pl.contsB (c : Int) = true ∧ Pl.idE ascii i' c = 0) ∨
     (decide (a = []) = true ∧ ((i : Int) == 0) = true ∧ Pl.contsB (c : Int) = false ∧ Pl.idE ascii i' c = 1) ∨
     (decide (a = []) = false ∧ Pl.contsB (c : Int) = true ∧ Pl.idE ascii i' c = 0) ∨
     (decide (a = []) = false ∧ Pl.contsB (c : Int) = false ∧ Pl.idE ascii i' c = 1))))))))))) := by
  by_cases hA : ascii = true ∧ 128 ≤ c
  · exact .inl ⟨by rw [hA.1, Bool.true_and]; simp; omega, by unfold Pl.idE; rw [if_pos hA]⟩
  refine .inr ⟨by cases ascii <;> simp at hA ⊢; omega, ?_⟩
  by_cases h13 : c = 13
  · exact .inl ⟨by simp [h13], by unfold Pl.idE; rw [if_neg hA, if_pos (by omega)]⟩
  refine .inr ⟨by simp; omega, ?_⟩
  by_cases h10 : c = 10
  · exact .inl ⟨by simp [h10], by unfold Pl.idE; rw [if_neg hA, if_pos (by omega)]⟩
  refine .inr ⟨by simp; omega, ?_⟩
  by_cases h12 : c = 12
  · exact .inl ⟨by simp [h12], by unfold Pl.idE; rw [if_neg hA, if_pos (by omega)]⟩
  refine .inr ⟨by simp; omega, ?_⟩
  by_cases hf : c = 65279
  · exact .inl ⟨by simp [hf], by unfold Pl.idE; rw [if_neg hA, if_pos (by omega)]⟩
  refine .inr ⟨by simp; omega, ?_⟩
  have hE : Pl.idE ascii i' c = if i' ≠ 0 then i' else if Pl.contsB (c : Int) = true then 0 else 1 := by unfold Pl.idE; rw [if_neg hA, if_neg (by omega)]
  rw [hE]
  by_cases ha : a = []
  · rw [if_pos ha] at hz
    subst hz
    by_cases h0 : i' = 0
    · by_cases hc : Pl.contsB (c : Int) = true
      · exact .inr (.inl ⟨by simp [ha], by simp [h0], hc, by simp [h0, hc]⟩)
      · exact .inr (.inr (.inl ⟨by simp [ha], by simp [h0], by simpa using hc, by simp [h0, hc]⟩))
    · exact .inl ⟨by simp [ha], by simp [h0], by simp [h0]⟩
  · rw [if_neg ha] at hz
    subst hz
    by_cases hc : Pl.contsB (c : Int) = true
    · exact .inr (.inr (.inr (.inl ⟨by simp [ha], hc, by simp [hc]⟩)))
    · exact .inr (.inr (.inr (.inr ⟨by simp [ha], by simpa using hc, by simp [hc]⟩)))
theorem runeLen_enc {c : Nat} (hs : Pl.Sc c) : Lib.runeLen (c : Int) = ((Pl.enc c).length : Int) := by
  unfold Pl.Sc at hs
  unfold Lib.runeLen
  rcases Nat.lt_or_ge c 128 with g1 | g1
  · rw [enc1 g1, if_neg (by omega), if_pos (by omega)]; rfl
  rcases Nat.lt_or_ge c 2048 with g2 | g2
  · rw [enc2 g1 g2, if_neg (by omega), if_neg (by omega), if_pos (by omega)]; rfl
  rcases Nat.lt_or_ge c 65536 with g3 | g3
  · rw [enc3 (by omega), if_neg (by omega), if_neg (by omega), if_neg (by omega), if_neg (by omega), if_pos (by omega)]; rfl
  · rw [enc4 g3 (by omega), if_neg (by omega), if_neg (by omega), if_neg (by omega), if_neg (by omega), if_neg (by omega), if_pos (by omega)]; rfl
theorem ws_cases {ws : Nat} (h : ws ≤ 1) : ws = 0 ∨ ws = 1 := by omega
theorem ne_beq {E : Nat} (h : E ≠ 0) : ((E : Int) == 0) = false := by simp [h]
theorem id_le2 {ascii : Bool} {m c E : Nat} {a r : List Nat} (h : Pl.idE ascii (if a = [] then Pl.initE m r else 0) c = E) : E ≤ 2 := by
  rw [← h]
  refine Pl.idE_le ?_ _ _
  split
  · exact Pl.initE_le _ _
  · omega
theorem id_good {ascii : Bool} {m c E : Nat} {a r : List Nat} (h : Pl.idE ascii (if a = [] then Pl.initE m r else 0) c = E) (hc : Pl.Ok c) : Pl.Good (c, E) := by
  rw [← h]
  refine Pl.idE_good ?_ _ hc
  split
  · exact Pl.initE_le _ _
  · omega
theorem id_small {D d : List UInt8} {x : ByteArray} {n : Nat} (h : D.length + 8 * n ≤ d.length + 8 * x.size) (hd : d.length ≤ 1099511627776) (hs : x.size ≤ 1099511627776) : D.length ≤ 35184372088832 := by omega
theorem id_grow {D d : List UInt8} {x : ByteArray} {c E : Nat} {t : List Nat} {may : Bool} (h : D.length + 8 * (Pl.encs (c :: t)).length ≤ d.length + 8 * x.size) (hc : Pl.Ok c) (hE : E ≤ 2) :
    (D ++ Pl.encs (Pl.pweF c E t.head? may)).length + 8 * (Pl.encs t).length ≤ d.length + 8 * x.size := by
  have h1 := Pl.pwe_len (nx := t.head?) (may := may) hc hE
  have h2 := enc_len_pos c
  rw [Pl.encs_cons, List.length_append] at h
  rw [List.length_append]
  omega
theorem id_next {ascii may : Bool} {i c E : Nat} {a t : List Nat} {X D : List UInt8} (h : X = D ++ Pl.encs (Pl.outF (Pl.idItems ascii (if a = [] then i else 0) (c :: t)) may)) (hE : Pl.idE ascii (if a = [] then i else 0) c = E) (he : E ≤ 2) :
    X = (D ++ Pl.encs (Pl.pweF c E t.head? (may && (!decide (E = 0) && decide (t = []))))) ++ Pl.encs (Pl.outF (Pl.idItems ascii (if a ++ [c] = [] then i else 0) t) may) := by
  rw [h, Pl.items_step, hE, if_neg (show a ++ [c] ≠ [] by simp), Pl.encs_append, List.append_assoc]
  rw [Pl.pwe_may (t := t) (may := may) (b := may && (!decide (E = 0) && decide (t = []))) (fun h1 h2 => by simp [h1, h2]) he]
set_option maxHeartbeats 4000000 in
theorem pid_any {F : Interp} {w : World} {B : Nat} {ascii : Bool} {v : Value} {d : List UInt8} {x : ByteArray} {r : List Nat} {m ws : Nat} (hP : Pr w B ascii v d) (hd : d.length ≤ 1099511627776) (hm : m ≤ 3) (hw1 : ws ≤ 1) (hx : Str x r) (hne : r ≠ []) (hok : ∀ c ∈ r, Pl.Ok c) (hs : x.size ≤ 1099511627776) (hT : Tabs w) (hF : F.told.answers w.tape) :
    Calls Tryf.prog 47 #[.pointer (some ⟨B, 0, none⟩), .string x, .int .u8 m, .int .u8 ws] w fun e w' => PrOut B ascii w (d ++ Pl.encs (Pl.identF m (decide (ws = 0)) ascii r)) e w' := by
  have HX := Lib.hid hx
  have HOK := Lib.hid hok
  have HNE := Lib.hid hne
  have HT := Lib.hid hT
  have HP := Lib.hid hP
  have HF := Lib.hid hF
  have hBw := hP.lt
  have HWS := Lib.hid (fun (W : World) (h : Tabs W) => wouldStart_any hx hok hs W h)
  obtain ⟨i0, hi, hz0, hz1, hz2⟩ := info_parts infoByte
  clear hx hok hne hT hP hF
  go_enter Tryf.func47, Tryf.ntmps47
  go_upto_block 0 with (fail)
  go_cut [9] (fun sv wr => sv = .int .u8 (Pl.initE m r) ∧ Below w.heap.size w wr)
  case first =>
    obtain rfl | rfl | hm2 : m = 0 ∨ m = 1 ∨ (m = 2 ∨ m = 3) := by omega
    · by_cases hw : Pl.wouldStart r = true
      · have HI := Lib.hid (show Pl.initE 0 r = 0 by unfold Pl.initE; simp [hw])
        as_aux_lemma =>
          go_wp2_with (go_at_call 66; (with_reducible refine (HWS.out _ HT.out).mono ?_); rintro e w' ⟨rfl, hb⟩)
          go_meet
          exact ⟨by rw [HI.out]; rfl, hb⟩
      · have hw : Pl.wouldStart r = false := by simpa using hw
        have HI := Lib.hid (show Pl.initE 0 r = 1 by unfold Pl.initE; simp [hw])
        as_aux_lemma =>
          go_wp2_with (go_at_call 66; (with_reducible refine (HWS.out _ HT.out).mono ?_); rintro e w' ⟨rfl, hb⟩)
          go_meet
          exact ⟨by rw [HI.out]; rfl, hb⟩
    · have HI := Lib.hid (show Pl.initE 1 r = 0 by unfold Pl.initE; simp)
      go_wp2_with fail
      go_meet
      exact ⟨by rw [HI.out]; rfl, Below.refl _ _⟩
    · have hx0 := HX.out
      obtain ⟨c, t, hr⟩ : ∃ c t, r = c :: t := by
        cases r with
        | nil => exact absurd rfl HNE.out
        | cons c t => exact ⟨c, t, rfl⟩
      have HR := Lib.hid hr
      have hco := HOK.out c (by rw [hr]; simp)
      have hcs : Pl.Sc c := hco.1
      have hcp := enc_len_pos c
      have hsz : x.size = (Pl.enc c).length + (Pl.encs t).length := by rw [hx0.size, hr, Pl.encs_cons, List.length_append]
      have hpos : 0 < x.size := by omega
      have hd0 : x.data.toList.drop 0 = Pl.encs (c :: t) := by rw [List.drop_zero, hx0.txt, hr]
      have hb0 := byte_at hd0 hcs
      have he0 := bt_eq hpos
      clear hx0
      by_cases hw : Pl.wouldStart r = true
      · have hst : Pl.startsB c = true ∨ c = 45 := by
          have h := hw
          rw [hr] at h
          simp only [Pl.wouldStart, Pl.pk_cons, Bool.or_eq_true, Bool.and_eq_true] at h
          rcases h with h | ⟨h, _⟩
          · exact .inl h
          · have := of_decide_eq_true h; right; omega
        have n0 : (x[0].toNat : Int) < 48 ∨ 57 < (x[0].toNat : Int) := by
          rw [he0]
          rcases hst with h | h
          · have := (Pl.starts_not h).2.2.2.1
            simp only [Pl.digB, decide_eq_false_iff_not] at this
            omega
          · omega
        have HU := Lib.hid (initE_unit hm2 hw)
        rcases hm2 with rfl | rfl
        · by_cases hE : (c : Int) = 101 ∨ (c : Int) = 69
          · have hlow : c < 128 := by omega
            have hn1 : (Pl.enc c).length = 1 := by rw [enc1 hlow]; rfl
            have hE0 : (x[0].toNat : Int) = 101 ∨ (x[0].toNat : Int) = 69 := by rw [he0]; omega
            have hE1 : ((x[0].toNat : Int) == 101) = true ∨ (((x[0].toNat : Int) == 101) = false ∧ ((x[0].toNat : Int) == 69) = true) := by
              rcases hE0 with h | h <;> simp [h]
            have hd1 := step_one hd0 hlow
            rw [Nat.zero_add] at hd1
            have HD1 := Lib.hid hd1
            have HEE := Lib.hid hE
            have HSZ := Lib.hid hsz
            have HN1 := Lib.hid hn1
            clear hd0 hb0 he0 hst hE hE0 hd1 hsz hn1
            cases t with
            | nil =>
              have hn2 : x.size < 2 := by have h1 := HSZ.out; have h2 := HN1.out; rw [Pl.encs_nil, List.length_nil] at h1; omega
              have HI := Lib.hid (show Pl.initE 2 r = 0 by rw [HU.out, HR.out]; simp [Pl.pk, Pl.digB])
              clear hr
              rcases hE1 with h1 | ⟨h1, h2⟩
              · as_aux_lemma =>
                  go_wp2_with (go_at_call 66; (with_reducible refine (HWS.out _ HT.out).mono ?_); rintro e w' ⟨rfl, hb⟩)
                  all_goals
                    go_meet
                    exact ⟨by rw [HI.out]; rfl, hb⟩
              · as_aux_lemma =>
                  go_wp2_with (go_at_call 66; (with_reducible refine (HWS.out _ HT.out).mono ?_); rintro e w' ⟨rfl, hb⟩)
                  all_goals
                    go_meet
                    exact ⟨by rw [HI.out]; rfl, hb⟩
            | cons d u =>
              have hdo := HOK.out d (by rw [hr]; simp)
              have hds : Pl.Sc d := hdo.1
              have hdp := enc_len_pos d
              have hn2 : 1 < x.size := by have h1 := HSZ.out; have h2 := HN1.out; rw [Pl.encs_cons, List.length_append] at h1; omega
              have hb1 := byte_at HD1.out hds
              have he1 := bt_eq hn2
              by_cases hdig : Pl.digB d = true
              · have hdd : 48 ≤ d ∧ d ≤ 57 := by simp only [Pl.digB, decide_eq_true_eq] at hdig; omega
                have q1 : 48 ≤ (x[1].toNat : Int) := by rw [he1]; omega
                have q2 : (x[1].toNat : Int) ≤ 57 := by rw [he1]; omega
                have HI := Lib.hid (show Pl.initE 2 r = 2 by rw [HU.out, HR.out]; rw [if_pos ⟨by rw [Pl.pk_cons]; exact HEE.out, by decide, .inl (by rw [Pl.pk_cons1, Pl.pk_cons]; exact hdig)⟩])
                clear hr hb1 he1 hdd hdig
                rcases hE1 with h1 | ⟨h1, h2⟩
                · as_aux_lemma =>
                    go_wp2_with (go_at_call 66; (with_reducible refine (HWS.out _ HT.out).mono ?_); rintro e w' ⟨rfl, hb⟩)
                    all_goals
                      go_meet
                      exact ⟨by rw [HI.out]; rfl, hb⟩
                · as_aux_lemma =>
                    go_wp2_with (go_at_call 66; (with_reducible refine (HWS.out _ HT.out).mono ?_); rintro e w' ⟨rfl, hb⟩)
                    all_goals
                      go_meet
                      exact ⟨by rw [HI.out]; rfl, hb⟩
              · have hdig : Pl.digB d = false := by simpa using hdig
                have hdd : (d : Int) < 48 ∨ 57 < (d : Int) := by simp only [Pl.digB, decide_eq_false_iff_not] at hdig; omega
                have q1 : (x[1].toNat : Int) < 48 ∨ 57 < (x[1].toNat : Int) := by rw [he1]; omega
                by_cases h45 : d = 45
                · have q2 : ((x[1].toNat : Int) == 45) = true := by rw [he1]; simp; omega
                  have hnd : (Pl.enc d).length = 1 := by rw [enc1 (by omega)]; rfl
                  have hd2 := step_one HD1.out (by omega)
                  have q1' : (x[1].toNat : Int) < 48 := by rw [he1]; omega
                  clear q1
                  cases u with
                  | nil =>
                    have hn3 : x.size < 3 := by have h1 := HSZ.out; have h2 := HN1.out; rw [Pl.encs_cons, List.length_append, Pl.encs_nil, List.length_nil] at h1; omega
                    have HI := Lib.hid (show Pl.initE 2 r = 0 by rw [HU.out, HR.out]; rw [if_neg]; exact fun ⟨_, _, h⟩ => h.elim (fun h => by rw [Pl.pk_cons1, Pl.pk_cons, hdig] at h; cases h) (fun h => by have h := h.2; rw [Pl.pk_cons1, Pl.pk_cons1] at h; simp [Pl.pk, Pl.digB] at h))
                    clear hr hb1 he1 hdd hdig h45 hnd hd2
                    rcases hE1 with h1 | ⟨h1, h2⟩
                    · as_aux_lemma =>
                        go_wp2_with (go_at_call 66; (with_reducible refine (HWS.out _ HT.out).mono ?_); rintro e w' ⟨rfl, hb⟩)
                        all_goals
                          go_meet
                          exact ⟨by rw [HI.out]; rfl, hb⟩
                    · as_aux_lemma =>
                        go_wp2_with (go_at_call 66; (with_reducible refine (HWS.out _ HT.out).mono ?_); rintro e w' ⟨rfl, hb⟩)
                        all_goals
                          go_meet
                          exact ⟨by rw [HI.out]; rfl, hb⟩
                  | cons f u =>
                    have hfo := HOK.out f (by rw [hr]; simp)
                    have hfs : Pl.Sc f := hfo.1
                    have hfp := enc_len_pos f
                    have hn3 : 2 < x.size := by have h1 := HSZ.out; have h2 := HN1.out; rw [Pl.encs_cons, Pl.encs_cons, List.length_append, List.length_append] at h1; omega
                    have hb2 : (f < 128 ∧ bt x 2 = f) ∨ (128 ≤ f ∧ 128 ≤ bt x 2) := byte_at hd2 hfs
                    have he2 := bt_eq hn3
                    by_cases hfd : Pl.digB f = true
                    · have hff : 48 ≤ f ∧ f ≤ 57 := by simp only [Pl.digB, decide_eq_true_eq] at hfd; omega
                      have q3 : 48 ≤ (x[2].toNat : Int) := by rw [he2]; omega
                      have q4 : (x[2].toNat : Int) ≤ 57 := by rw [he2]; omega
                      have HI := Lib.hid (show Pl.initE 2 r = 2 by rw [HU.out, HR.out]; rw [if_pos ⟨by rw [Pl.pk_cons]; exact HEE.out, by decide, .inr ⟨by rw [Pl.pk_cons1, Pl.pk_cons, h45]; rfl, by rw [Pl.pk_cons1, Pl.pk_cons1, Pl.pk_cons]; exact hfd⟩⟩])
                      clear hr hb1 he1 hdd hdig h45 hnd hd2 hb2 he2 hff hfd
                      rcases hE1 with h1 | ⟨h1, h2⟩
                      · as_aux_lemma =>
                          go_wp2_with (go_at_call 66; (with_reducible refine (HWS.out _ HT.out).mono ?_); rintro e w' ⟨rfl, hb⟩)
                          all_goals
                            go_meet
                            exact ⟨by rw [HI.out]; rfl, hb⟩
                      · as_aux_lemma =>
                          go_wp2_with (go_at_call 66; (with_reducible refine (HWS.out _ HT.out).mono ?_); rintro e w' ⟨rfl, hb⟩)
                          all_goals
                            go_meet
                            exact ⟨by rw [HI.out]; rfl, hb⟩
                    · have hfd : Pl.digB f = false := by simpa using hfd
                      have q3 : (x[2].toNat : Int) < 48 ∨ 57 < (x[2].toNat : Int) := by
                        have : (f : Int) < 48 ∨ 57 < (f : Int) := by simp only [Pl.digB, decide_eq_false_iff_not] at hfd; omega
                        rw [he2]; omega
                      have HI := Lib.hid (show Pl.initE 2 r = 0 by rw [HU.out, HR.out]; rw [if_neg]; exact fun ⟨_, _, h⟩ => h.elim (fun h => by rw [Pl.pk_cons1, Pl.pk_cons, hdig] at h; cases h) (fun h => by have h := h.2; rw [Pl.pk_cons1, Pl.pk_cons1, Pl.pk_cons, hfd] at h; cases h))
                      clear hr hb1 he1 hdd hdig h45 hnd hd2 hb2 he2 hfd
                      rcases hE1 with h1 | ⟨h1, h2⟩
                      · as_aux_lemma =>
                          go_wp2_with (go_at_call 66; (with_reducible refine (HWS.out _ HT.out).mono ?_); rintro e w' ⟨rfl, hb⟩)
                          all_goals
                            go_meet
                            exact ⟨by rw [HI.out]; rfl, hb⟩
                      · as_aux_lemma =>
                          go_wp2_with (go_at_call 66; (with_reducible refine (HWS.out _ HT.out).mono ?_); rintro e w' ⟨rfl, hb⟩)
                          all_goals
                            go_meet
                            exact ⟨by rw [HI.out]; rfl, hb⟩
                · have q2 : ((x[1].toNat : Int) == 45) = false := by rw [he1]; simp; omega
                  have HI := Lib.hid (show Pl.initE 2 r = 0 by rw [HU.out, HR.out]; rw [if_neg]; exact fun ⟨_, _, h⟩ => h.elim (fun h => by rw [Pl.pk_cons1, Pl.pk_cons, hdig] at h; cases h) (fun h => by have h := h.1; rw [Pl.pk_cons1, Pl.pk_cons] at h; omega))
                  clear hr hb1 he1 hdd hdig h45
                  rcases hE1 with h1 | ⟨h1, h2⟩
                  · as_aux_lemma =>
                      go_wp2_with (go_at_call 66; (with_reducible refine (HWS.out _ HT.out).mono ?_); rintro e w' ⟨rfl, hb⟩)
                      all_goals
                        go_meet
                        exact ⟨by rw [HI.out]; rfl, hb⟩
                  · as_aux_lemma =>
                      go_wp2_with (go_at_call 66; (with_reducible refine (HWS.out _ HT.out).mono ?_); rintro e w' ⟨rfl, hb⟩)
                      all_goals
                        go_meet
                        exact ⟨by rw [HI.out]; rfl, hb⟩
          · have e1 : ((x[0].toNat : Int) == 101) = false := by rw [he0]; simp; omega
            have e2 : ((x[0].toNat : Int) == 69) = false := by rw [he0]; simp; omega
            have HI := Lib.hid (show Pl.initE 2 r = 0 by rw [HU.out, HR.out, if_neg (fun h => hE (by have := h.1; rw [Pl.pk_cons] at this; exact this))])
            clear hr hb0 he0 hst hE hd0 hsz
            as_aux_lemma =>
              go_wp2_with (go_at_call 66; (with_reducible refine (HWS.out _ HT.out).mono ?_); rintro e w' ⟨rfl, hb⟩)
              all_goals
                go_meet
                exact ⟨by rw [HI.out]; rfl, hb⟩
        · have HI := Lib.hid (show Pl.initE 3 r = 0 by rw [HU.out]; simp)
          clear hr hb0 he0 hst hd0 hsz
          as_aux_lemma =>
            go_wp2_with (go_at_call 66; (with_reducible refine (HWS.out _ HT.out).mono ?_); rintro e w' ⟨rfl, hb⟩)
            all_goals
              go_meet
              exact ⟨by rw [HI.out]; rfl, hb⟩
      · have hw : Pl.wouldStart r = false := by simpa using hw
        clear hb0 he0 hd0 hsz hr
        rcases hm2 with rfl | rfl
        · have HI := Lib.hid (show Pl.initE 2 r = 1 by unfold Pl.initE; simp [hw])
          as_aux_lemma =>
            go_wp2_with (go_at_call 66; (with_reducible refine (HWS.out _ HT.out).mono ?_); rintro e w' ⟨rfl, hb⟩)
            all_goals
              go_meet
              exact ⟨by rw [HI.out]; rfl, hb⟩
        · have HI := Lib.hid (show Pl.initE 3 r = 1 by unfold Pl.initE; simp [hw])
          as_aux_lemma =>
            go_wp2_with (go_at_call 66; (with_reducible refine (HWS.out _ HT.out).mono ?_); rintro e w' ⟨rfl, hb⟩)
            all_goals
              go_meet
              exact ⟨by rw [HI.out]; rfl, hb⟩
  case rest =>
    obtain ⟨rfl, hb⟩ := hcut
    obtain ⟨w1, hw1⟩ : ∃ w1, w1 = wc := ⟨_, rfl⟩
    subst hw1
    have HP1 := Lib.hid (HP.out.keep hb)
    have HK1 := Lib.hid (Kp.fresh (T := 5) hb (Nat.le_of_lt hBw))
    have HF1 := Lib.hid (show F.told.answers w1.tape from by rw [hb.tape]; exact HF.out)
    have hz1' := hb.size
    have hB1 : B + 1 ≤ w1.heap.size := by omega
    have hxp : 0 < x.size := by
      have := HX.out.size
      cases r with
      | nil => exact absurd rfl HNE.out
      | cons c t => have := enc_len_pos c; rw [Pl.encs_cons, List.length_append] at *; omega
    have hdx : d.length + x.size ≤ maxLen := by unfold maxLen; omega
    have hdx2 : d.length + x.size ≤ 140737488355328 := by omega
    clear hb
    go_upto_if 81 with fail
    go_cut [11, 12] (fun _ _ wr => w1 = wr)
    case first =>
      as_aux_lemma =>
        by_cases hi0 : Pl.initE m r = 0
        · have HI0 := Lib.hid hi0
          have h81 : ((Pl.initE m r : Int) == 0) = true := by simp [hi0]
          clear hi0
          rw [h81]
          go_wp2_with fail
          refine wp_scope_fore 0 rfl ?_
          intro Qs hgo hret
          go_wp2_with fail
          go_loopg [11, 12] x.size (fun k iv cv wr => ∃ j : Nat, k = x.size - j ∧ j ≤ x.size ∧ iv = .int .i64 j ∧ w1 = wr ∧ Hid (∀ i, i < j → fastB x i))
          case atStart => exact ⟨0, rfl, Nat.zero_le _, rfl, rfl, Lib.hid (fun i hi => absurd hi (Nat.not_lt_zero i))⟩
          case round =>
            obtain ⟨j, rfl, hj, rfl, rfl, HE⟩ := hrel
            by_cases hlt : j < x.size
            · obtain ⟨b0, b1, hwk, hlt'⟩ := byte_in HX.out HOK.out hlt
              have HWK := Lib.hid (And.intro b0 (And.intro b1 hwk))
              clear b0 b1 hwk
              rcases fast_cases hlt with ⟨k1, k2, hf⟩ | ⟨k1, hf⟩ | ⟨k1, k2, hf⟩
              · have HE2 := Lib.hid (fast_more HE.out hf)
                clear hf HE
                go_wp2_with (go_at_call 67; rw [HWK.out.2.2]; (with_reducible refine (isCont_any _ HWK.out.1 HWK.out.2.1 _).mono ?_); rintro e w' ⟨rfl, rfl⟩)
                go_roundg (x.size - (j + 1))
                case measure => exact Nat.sub_lt_sub_left hlt (Nat.lt_succ_self j)
                case rel => exact ⟨j + 1, rfl, hlt, rfl, rfl, HE2⟩
              · clear hf HE
                go_wp2_with fail
                refine wp_goto (hgo _ _ ?_)
                go_step
                go_meet
                rfl
              · clear hf HE
                go_wp2_with (go_at_call 67; rw [HWK.out.2.2]; (with_reducible refine (isCont_any _ HWK.out.1 HWK.out.2.1 _).mono ?_); rintro e w' ⟨rfl, rfl⟩)
                refine wp_goto (hgo _ _ ?_)
                go_step
                go_meet
                rfl
            · have hlt' := not_lt_in hlt
              have hjj : x.size = j := Nat.le_antisymm (Nat.le_of_not_lt hlt) hj
              have HALL := Lib.hid (low_all HX.out HOK.out (by rw [hjj]; exact HE.out))
              have HID := Lib.hid (show Pl.identF m (decide (ws = 0)) ascii r = r from Pl.ident_fast HI0.out HALL.out)
              clear HE hlt hj hjj
              have c15 := HP1.out.css
              have f15 := HP1.out.free 15
              go_wp2_with (at_builtin; refine Lib.wpList_append_own_string _ rfl _ _ 31 9 rfl (B + 1) 5 i0 Tryf.underlying31 Tryf.underlying9 hi hz0 hz1 hz2 _ d.length (Lib.byteCells d) rfl HP1.out.own x rfl hdx hdx2 hB1 ?grow)
              case grow =>
                intro v3 w3 hown3 hgrow3 _
                obtain ⟨g, cap, hv3, _, _⟩ := hown3.form (Nat.add_pos_right _ hxp)
                rw [hv3] at hown3 ⊢
                obtain ⟨c3, f3⟩ := HP1.out.kept hgrow3
                have HP3 := Lib.hid (HP1.out.app (x := x.data.toList) hgrow3 hown3 (by rw [List.length_append, Array.length_toList]; rfl) (by rw [Lib.byteCells_append]; rfl))
                have HK3 := Lib.hid (HK1.out.trans (HP1.out.kp hgrow3 (.slice (some ⟨g, 0, none⟩) (d.length + x.size) cap)))
                go_wp2_with fail

                first | go_end0 | go_ret | go_ret3
                have hp := HP3.out
                rw [HX.out.txt] at hp
                rw [HID.out]
                exact ⟨rfl, ⟨_, hp⟩, HK3.out⟩
        · have h81 : ((Pl.initE m r : Int) == 0) = false := by simp; omega
          rw [h81]
          go_wp2_with fail
          go_meet
          rfl
    case rest =>
      subst hcut
      rename_i zz148 zz147 zz146 zz145 zz144 zz143 zz142 zz141 zz140 zz139 zz138 zz137 zz136 zz135 zz134 zz133 zz132 zz131 zz130 zz129 zz128 zz127 zz126 zz125 zz124 zz123 zz122 zz121 zz120 zz119 zz118 zz117 zz116 zz115 zz114 zz113 zz112 zz111 zz110 zz109 zz108 zz107 zz106 zz105 zz104 zz103 zz102 zz101 zz100 zz99 zz98 zz97 zz96 zz95 zz94 zz93 zz92 zz91 zz90 zz89 zz88 zz87 zz86 zz85 zz84 zz83 zz82 zz81 zz80 zz79 zz78 zz77 zz76 zz75 zz74 zz73 zz72 zz71 zz70 zz69 zz68 zz67 zz66 zz65 zz64 zz63 zz62 zz61 zz60 zz59 zz58 zz57 zz56 zz55 zz54 zz53 zz52 zz51 zz50 zz49 zz48 zz47 zz46 zz45 zz44 zz43 zz42 zz41 zz40 zz39 zz38 zz37 zz36 zz35 zz34 zz33 zz32 zz31 zz30 zz29 zz28 zz27 zz26 zz25 zz24 zz23 zz22 zz21 zz20 zz19 zz18 zz17 zz16 zz15 zz14 zz13 zz12 zz11 zz10 zz9 zz8 zz7 zz6 zz5 zz4 zz3 _ _; clear zz148 zz147 zz146 zz145 zz144 zz143 zz142 zz141 zz140 zz139 zz138 zz137 zz136 zz135 zz134 zz133 zz132 zz131 zz130 zz129 zz128 zz127 zz126 zz125 zz124 zz123 zz122 zz121 zz120 zz119 zz118 zz117 zz116 zz115 zz114 zz113 zz112 zz111 zz110 zz109 zz108 zz107 zz106 zz105 zz104 zz103 zz102 zz101 zz100 zz99 zz98 zz97 zz96 zz95 zz94 zz93 zz92 zz91 zz90 zz89 zz88 zz87 zz86 zz85 zz84 zz83 zz82 zz81 zz80 zz79 zz78 zz77 zz76 zz75 zz74 zz73 zz72 zz71 zz70 zz69 zz68 zz67 zz66 zz65 zz64 zz63 zz62 zz61 zz60 zz59 zz58 zz57 zz56 zz55 zz54 zz53 zz52 zz51 zz50 zz49 zz48 zz47 zz46 zz45 zz44 zz43 zz42 zz41 zz40 zz39 zz38 zz37 zz36 zz35 zz34 zz33 zz32 zz31 zz30 zz29 zz28 zz27 zz26 zz25 zz24 zz23 zz22 zz21 zz20 zz19 zz18 zz17 zz16 zz15 zz14 zz13 zz12 zz11 zz10 zz9 zz8 zz7 zz6 zz5 zz4 zz3
      have HP2 := Lib.hid (show Pr (w1.iter x 0) B ascii v d from HP1.out.alloc (.stringIter x 0))
      have HK2 := Lib.hid (show Kp 5 B w (w1.iter x 0) from HK1.out.alloc (Nat.le_trans (Nat.le_succ B) hB1) (.stringIter x 0))
      have HI2 := Lib.hid (show (w1.iter x 0).heap[w1.heap.size]? = some (.stringIter x 0) from World.iter_heap w1 x 0)
      have HF2 := Lib.hid (show F.told.answers (w1.iter x 0).tape from HF1.out)
      clear HWS HT
      go_wp2_with fail
      go_loopg [13] r.length (fun k _ wr => ∃ (a t : List Nat) (D : List UInt8) (u : Value), k = t.length ∧ Hid (r = a ++ t) ∧ Hid (D.length + 8 * (Pl.encs t).length ≤ d.length + 8 * x.size) ∧ Hid (Pr wr B ascii u D) ∧ Hid (Kp 5 B w wr) ∧
        Hid (wr.heap[w1.heap.size]? = some (.stringIter x (Pl.encs a).length)) ∧
        Hid (d ++ Pl.encs (Pl.identF m (decide (ws = 0)) ascii r) = D ++ Pl.encs (Pl.outF (Pl.idItems ascii (if a = [] then Pl.initE m r else 0) t) (decide (ws = 0)))))
      case atStart => exact ⟨[], r, d, v, rfl, Lib.hid rfl, Lib.hid (by have := HX.out.size; rw [← this]; exact Nat.le_refl _), HP2, HK2, HI2, Lib.hid (by rw [if_pos rfl]; rfl)⟩
      case round =>
        clear HP2 HK2 HI2 HF2
        obtain ⟨a, t, D, u, rfl, HR, HL, HPr, HKr, HIt, HO⟩ := hrel
        cases t with
        | nil =>
          have hn := fun ty => Lib.run_next_end_at (P := Tryf.prog) wr w1.heap.size x (Pl.encs a).length ty HIt.out (id_end (by rw [← HR.out]; exact HX.out))
          go_wp2_with fail
          first | go_end0 | go_ret | go_ret3
          have ho := HO.out
          rw [show Pl.outF (Pl.idItems ascii (if a = [] then Pl.initE m r else 0) []) (decide (ws = 0)) = [] from rfl, Pl.encs_nil, List.append_nil] at ho
          rw [ho]
          exact ⟨rfl, ⟨_, HPr.out⟩, HKr.out⟩
        | cons c t =>
          obtain ⟨glt, gdec, gstr, glast, gfst, gok, gokt, gle, gpos, ghi, gilt, gile, gsz, gfits, gnxt⟩ := id_round (x := x) (a := a) (c := c) (t := t) (by rw [← HR.out]; exact HX.out) (by rw [← HR.out]; exact HOK.out)
          have hn := fun ty => Lib.run_next_any_at (P := Tryf.prog) wr w1.heap.size x (Pl.encs a).length ty HIt.out glt
          rw [gdec] at hn
          have HG := Lib.hid (And.intro gstr (And.intro gok (And.intro gokt (And.intro gsz gnxt))))
          clear gdec gstr gok gokt glt gsz gnxt gilt
          have HP3 := Lib.hid (HPr.out.turn HIt.out ((Pl.encs a).length + (Pl.enc c).length))
          have HK3 := Lib.hid (HKr.out.turn (Nat.le_trans (Nat.le_succ B) hB1) hz1' x ((Pl.encs a).length + (Pl.enc c).length))
          have HI3 := Lib.hid (Lib.iterAt_heap wr w1.heap.size x (Pl.encs a).length ((Pl.encs a).length + (Pl.enc c).length) HIt.out)
          go_upto_region 30 with fail
          clear hn HPr HKr HIt
          generalize wr.iterAt w1.heap.size x ((Pl.encs a).length + (Pl.enc c).length) = w2 at HP3 HK3 HI3 ⊢
          have ca := HP3.out.asc
          go_cut [121] (fun tv wr' => tv = .bool (ascii && decide (128 ≤ (c : Int))) ∧ w2 = wr')
          case first =>
            cases ascii with
            | true =>
              go_wp2_with fail
              go_meet
              exact ⟨rfl, rfl⟩
            | false =>
              go_wp2_with fail
              go_meet
              exact ⟨rfl, rfl⟩
          case rest =>
            obtain ⟨rfl, hwe⟩ := hcut
            subst hwe
            go_upto_if 121 with fail
            go_cut [15] (fun ev wr' => ev = .int .u8 (Pl.idE ascii (if a = [] then Pl.initE m r else 0) c) ∧ w2 = wr')
            case first =>
              rcases id_ways (ascii := ascii) (c := c) (i := Pl.initE m r) (a := a) rfl with h | ⟨hA, h | ⟨h13, h | ⟨h10, h | ⟨h12, h | ⟨hf, h | h | h | h | h⟩⟩⟩⟩⟩
              · obtain ⟨hA, h2⟩ := h
                have HE := Lib.hid h2
                clear h2
                rw [hA]
                go_wp2_with (go_at_call 67; (with_reducible refine (isCont_any _ gpos ghi _).mono ?_); rintro e w' ⟨rfl, rfl⟩)
                all_goals go_meet
                all_goals exact ⟨congrArg (fun n : Nat => Value.int .u8 (n : Int)) HE.out.symm, rfl⟩
              · obtain ⟨h13, h2⟩ := h
                have HE := Lib.hid h2
                clear h2
                rw [hA]
                go_wp2_with (go_at_call 67; (with_reducible refine (isCont_any _ gpos ghi _).mono ?_); rintro e w' ⟨rfl, rfl⟩)
                all_goals go_meet
                all_goals exact ⟨congrArg (fun n : Nat => Value.int .u8 (n : Int)) HE.out.symm, rfl⟩
              · obtain ⟨h10, h2⟩ := h
                have HE := Lib.hid h2
                clear h2
                rw [hA]
                go_wp2_with (go_at_call 67; (with_reducible refine (isCont_any _ gpos ghi _).mono ?_); rintro e w' ⟨rfl, rfl⟩)
                all_goals go_meet
                all_goals exact ⟨congrArg (fun n : Nat => Value.int .u8 (n : Int)) HE.out.symm, rfl⟩
              · obtain ⟨h12, h2⟩ := h
                have HE := Lib.hid h2
                clear h2
                rw [hA]
                go_wp2_with (go_at_call 67; (with_reducible refine (isCont_any _ gpos ghi _).mono ?_); rintro e w' ⟨rfl, rfl⟩)
                all_goals go_meet
                all_goals exact ⟨congrArg (fun n : Nat => Value.int .u8 (n : Int)) HE.out.symm, rfl⟩
              · obtain ⟨hf, h2⟩ := h
                have HE := Lib.hid h2
                clear h2
                rw [hA]
                go_wp2_with (go_at_call 67; (with_reducible refine (isCont_any _ gpos ghi _).mono ?_); rintro e w' ⟨rfl, rfl⟩)
                all_goals go_meet
                all_goals exact ⟨congrArg (fun n : Nat => Value.int .u8 (n : Int)) HE.out.symm, rfl⟩
              · obtain ⟨hz, hi9, h2⟩ := h
                have HE := Lib.hid h2
                rw [hz] at gfst
                clear h2 hz
                rw [hA]
                go_wp2_with (go_at_call 67; (with_reducible refine (isCont_any _ gpos ghi _).mono ?_); rintro e w' ⟨rfl, rfl⟩)
                all_goals go_meet
                all_goals exact ⟨congrArg (fun n : Nat => Value.int .u8 (n : Int)) HE.out.symm, rfl⟩
              · obtain ⟨hz, hi9, hc, h2⟩ := h
                have HE := Lib.hid h2
                rw [hz] at gfst
                clear h2 hz
                rw [hA]
                go_wp2_with (go_at_call 67; (with_reducible refine (isCont_any _ gpos ghi _).mono ?_); rintro e w' ⟨rfl, rfl⟩)
                all_goals go_meet
                all_goals exact ⟨congrArg (fun n : Nat => Value.int .u8 (n : Int)) HE.out.symm, rfl⟩
              · obtain ⟨hz, hi9, hc, h2⟩ := h
                have HE := Lib.hid h2
                rw [hz] at gfst
                clear h2 hz
                rw [hA]
                go_wp2_with (go_at_call 67; (with_reducible refine (isCont_any _ gpos ghi _).mono ?_); rintro e w' ⟨rfl, rfl⟩)
                all_goals go_meet
                all_goals exact ⟨congrArg (fun n : Nat => Value.int .u8 (n : Int)) HE.out.symm, rfl⟩
              · obtain ⟨hz, hc, h2⟩ := h
                have HE := Lib.hid h2
                rw [hz] at gfst
                clear h2 hz
                rw [hA]
                go_wp2_with (go_at_call 67; (with_reducible refine (isCont_any _ gpos ghi _).mono ?_); rintro e w' ⟨rfl, rfl⟩)
                all_goals go_meet
                all_goals exact ⟨congrArg (fun n : Nat => Value.int .u8 (n : Int)) HE.out.symm, rfl⟩
              · obtain ⟨hz, hc, h2⟩ := h
                have HE := Lib.hid h2
                rw [hz] at gfst
                clear h2 hz
                rw [hA]
                go_wp2_with (go_at_call 67; (with_reducible refine (isCont_any _ gpos ghi _).mono ?_); rintro e w' ⟨rfl, rfl⟩)
                all_goals go_meet
                all_goals exact ⟨congrArg (fun n : Nat => Value.int .u8 (n : Int)) HE.out.symm, rfl⟩
            case rest =>
              obtain ⟨rfl, hwe⟩ := hcut
              subst hwe
              generalize hE : Pl.idE ascii (if a = [] then Pl.initE m r else 0) c = E
              have HE := Lib.hid hE
              clear hE ca gfst
              have HRL := Lib.hid (fun (W : World) => (by have := Tryf.utf8_RuneLen (c : Int) W; rw [runeLen_enc HG.out.2.1.1] at this; exact this.mono fun e w' h => ⟨h.1, h.2.symm⟩ : Calls Tryf.prog 68 #[.int .i32 c] W fun e w' => e = .returned (.int .i64 ((Pl.enc c).length : Int)) ∧ W = w'))
              go_upto_region 38 with fail
              go_cut [16] (fun mv wr' => mv = .bool (decide (ws = 0) && (!decide (E = 0) && decide (t = []))) ∧ w2 = wr')
              case first =>
                obtain rfl | rfl : ws = 0 ∨ ws = 1 := ws_cases hw1
                · by_cases h0 : E = 0
                  · subst h0
                    go_wp2_with (go_at_call 68; (with_reducible refine (HRL.out _).mono ?_); rintro e w5 ⟨rfl, rfl⟩)
                    all_goals go_meet
                    all_goals exact ⟨rfl, rfl⟩
                  · have h0' := ne_beq h0
                    have H0 := Lib.hid h0
                    clear h0
                    go_wp2_with (go_at_call 68; (with_reducible refine (HRL.out _).mono ?_); rintro e w5 ⟨rfl, rfl⟩)
                    all_goals go_meet
                    all_goals exact ⟨by simp [H0.out], rfl⟩
                · go_wp2_with (go_at_call 68; (with_reducible refine (HRL.out _).mono ?_); rintro e w5 ⟨rfl, rfl⟩)
                  all_goals go_meet
                  all_goals exact ⟨rfl, rfl⟩
              case rest =>
                obtain ⟨rfl, hwe⟩ := hcut
                subst hwe
                have hE2 : E ≤ 2 := id_le2 HE.out
                have HPW := Lib.hid (pwe_any (may := decide (ws = 0) && (!decide (E = 0) && decide (t = []))) HP3.out (id_good HE.out HG.out.2.1) (id_small HL.out hd hs) HG.out.1 HG.out.2.2.1 (Nat.le_trans HG.out.2.2.2.1 hs) (show F.told.answers w2.tape from by rw [HK3.out.below.tape]; exact HF.out))
                go_wp2_with (go_at_call 69; (with_reducible refine HPW.out.mono ?_); rintro e w5 ⟨rfl, ⟨u5, hp5⟩, hk5⟩)
                have HR5 := Lib.hid (show r = (a ++ [c]) ++ t from by rw [HR.out]; simp)
                have HL5 := Lib.hid (id_grow (may := decide (ws = 0) && (!decide (E = 0) && decide (t = []))) HL.out HG.out.2.1 hE2)
                have HI5 := Lib.hid (show w5.heap[w1.heap.size]? = some (.stringIter x (Pl.encs (a ++ [c])).length) from by
                  rw [HG.out.2.2.2.2]
                  exact hk5.kept _ _ HI3.out (fun e => by injection e with e; rw [e] at hB1; exact absurd hB1 (Nat.not_succ_le_self B)) (fun c fz e => by cases e))
                have HO5 := Lib.hid (id_next HO.out HE.out hE2)
                go_roundg t.length
                case measure => exact Nat.lt_succ_self _
                case rel => exact ⟨a ++ [c], t, _, u5, rfl, HR5, HL5, Lib.hid hp5, Lib.hid (HK3.out.trans hk5), HI5, HO5⟩
end Go.Proofs.YtmomkkakjkkakaaFmt
