/-
  WALK of printWithEscape: a sign behind a backslash.
-/
import Derived.Test.YtmomkkakjkkakaaFmtPw
import Derived.Deep.DeepCutAuto
set_option linter.unusedVariables false
set_option linter.unusedSimpArgs false
set_option maxRecDepth 100000
namespace Go.Proofs.YtmomkkakjkkakaaFmt
open Go.RowKit

theorem hexv_neg {c : Int} (h : Pl.hexv c < 0) : (c < 48 ∨ 57 < c) ∧ (c < 97 ∨ 102 < c) ∧ (c < 65 ∨ 70 < c) := by
  unfold Pl.hexv at h
  split at h
  · omega
  split at h
  · omega
  split at h <;> omega
theorem setCells_gr (g : Nat) : ∀ (vs : List Value) (o : Nat) (w : World), w.grownBy (w.setCells g o vs) (some g)
  | [], _, w => gr_refl w _
  | v :: r, o, w => gr_trans (gr_put (gr_refl w _) o v) (setCells_gr g r (o + 1) _)
/-- a sign's bytes in a block of four, in whatever world -/
structure TmpAt (W : World) (T c : Nat) (w' : World) : Prop where
  gr : W.grownBy w' (some T)
  cells : ∀ j u, (Lib.byteCells (Pl.enc c))[j]? = some u → w'.cell? ((⟨T, 0, none⟩ : Addr).add j) = some u
theorem encode_at {W : World} {T c : Nat} (hb : Blk W T 119 #[.int .u8 0, .int .u8 0, .int .u8 0, .int .u8 0]) (hc : c ≤ 1114111) :
    Calls Tryf.prog 87 #[.slice (some ⟨T, 0, none⟩) 4 4, .int .i32 c] W fun e w' => e = .returned (.int .i64 (Pl.enc c).length) ∧ TmpAt W T c w' := by
  have hl : (Lib.runeCells (c : Int)).length = (Pl.enc c).length := by rw [runeCells_enc, Lib.byteCells_length]
  have h4 := enc_len_le c
  have hsome : ∀ j, j < (Lib.runeCells (c : Int)).length → (W.cell? ⟨T, 0 + j, none⟩).isSome = true := by
    intro j hj
    rw [Nat.zero_add, hb.cell]
    have : j < 4 := by omega
    simp [this]
  refine (Tryf.utf8_EncodeRune T 0 4 4 (c : Int) (by omega) (by omega) _ (by omega) hsome (fun j _ => hb.frozen _)).mono fun e w' ⟨he, hw⟩ => ?_
  subst hw
  refine ⟨by rw [he, hl], setCells_gr _ _ _ _, ?_⟩
  intro j u hu
  have e : (⟨T, 0, none⟩ : Addr).add j = ⟨T, 0 + j, none⟩ := by cases j <;> simp [Addr.add]
  rw [← runeCells_enc] at hu
  obtain ⟨hj, hu⟩ := List.getElem?_eq_some_iff.1 hu
  rw [e, World.cell?_setCells_in _ _ _ _ hsome j hj, hu]
theorem Pr.far {w w' : World} {B T : Nat} {ascii : Bool} {v : Value} {d : List UInt8} {t : TypeId} {cs : Array Value} (h : Pr w B ascii v d) (g : w.grownBy w' (some T)) (hT : T ≠ B) (hb : Blk w T t cs) (ht : t ≠ 5) : Pr w' B ascii v d := by
  obtain ⟨⟨cp, hbp, rest⟩, ho⟩ := h
  refine ⟨⟨cp, hbp.grown g (by intro e; injection e with e; exact hT e.symm), rest⟩, ho.kept g ?_⟩
  cases hv : v.ownBlock with
  | none => exact .inl rfl
  | some k =>
    right
    intro e
    obtain ⟨c, fz, hk⟩ := own_row ho k hv
    injection e with e
    subst e
    rw [hb] at hk
    injection hk with hk
    injection hk with _ e2 _
    exact ht e2
theorem Kp.far {T0 : TypeId} {B T : Nat} {w0 w w' : World} (k : Kp T0 B w0 w) (g : w.grownBy w' (some T)) (hT : w0.heap.size ≤ T) (hB : B ≤ w0.heap.size) : Kp T0 B w0 w' := by
  have hs := k.below.size
  refine ⟨k.below.trans ⟨g.os, g.tape, g.output, g.size, fun i hi => ?_⟩, ?_⟩
  · have hi2 : i < w.heap.size := by omega
    exact g.block i hi2 (by intro e; injection e with e; omega)
  · intro i o hi hb ho
    have h1 := k.kept i o hi hb ho
    have hlt : i < w0.heap.size := (Array.getElem?_eq_some_iff.1 hi).1
    rw [g.block i (by omega) (by intro e; injection e with e; omega)]
    exact h1

set_option maxHeartbeats 2000000 in
theorem pwe_back {w : World} {B : Nat} {ascii : Bool} {v : Value} {d : List UInt8} {c : Nat} {x : ByteArray} {may : Bool} (h : Pr w B ascii v d) (hc : Pl.Ok c) (hd : d.length ≤ 35184372088832) (hx : Pl.hexv c < 0) :
    Calls Tryf.prog 69 #[.pointer (some ⟨B, 0, none⟩), .int .i32 c, .int .u8 1, .string x, .bool may] w fun e w' => PrOut B ascii w (d ++ [92] ++ Pl.enc c) e w' := by
  have hc1 : c ≤ 1114111 := by have := hc.1; unfold Pl.Sc at this; omega
  have hl4 := enc_len_le c
  have hl1 := enc_len_pos c
  obtain ⟨n1, n2, n3⟩ := hexv_neg hx
  have HP := Lib.hid h
  have hBw := h.lt
  obtain ⟨i0, hi, hz0, hz1, hz2⟩ := info_parts infoByte
  clear h hc hx
  have c15 := HP.out.css
  have f15 := HP.out.free 15
  go_enter Tryf.func69, Tryf.ntmps69
  go_upto_region 1 with (fail)
  go_cut [40] (fun tv wr => tv = .bool false ∧ wr = w.alloc (.cells #[.int .u8 0, .int .u8 0, .int .u8 0, .int .u8 0] 119))
  case first =>
    go_wp2_with fail
    all_goals
      go_meet
      exact ⟨by first | rfl | (simp; omega), rfl⟩
  case rest =>
  obtain ⟨rfl, hwe⟩ := hcut
  subst hwe
  have HP1 := Lib.hid (HP.out.alloc (.cells #[.int .u8 0, .int .u8 0, .int .u8 0, .int .u8 0] 119))
  have HT0 := Lib.hid (Blk.new w 119 #[.int .u8 0, .int .u8 0, .int .u8 0, .int .u8 0])
  have HK0 := Lib.hid ((Kp.refl 5 B w).alloc (Nat.le_of_lt hBw) (.cells #[.int .u8 0, .int .u8 0, .int .u8 0, .int .u8 0] 119))
  have hz1' : (w.alloc (.cells #[.int .u8 0, .int .u8 0, .int .u8 0, .int .u8 0] 119)).heap.size = w.heap.size + 1 := by simp
  generalize w.alloc (.cells #[.int .u8 0, .int .u8 0, .int .u8 0, .int .u8 0] 119) = w1 at HP1 HT0 HK0 hz1' ⊢
  have HZ := Lib.hid hz1'
  have hB1 : B < w1.heap.size := by omega
  clear hz1' c15 f15
  have c15 := HP1.out.css
  have f15 := HP1.out.free 15
  go_wp2_with (at_builtin; refine wpList_append_own _ rfl _ _ 31 rfl (B + 1) 5 i0 _ 1 1 Tryf.underlying31 hi hz0 hz1 hz2 rfl (by decide) _ d.length (Lib.byteCells d) rfl ?own _ 1 1 [.int .u8 92] rfl rfl ?hnews ?h1 (by unfold maxLen; omega) (by omega) ?hbase ?grow)
  case own => exact (HP1.out.alloc _).own
  case hnews =>
    intro j u hu
    match j, hu with
    | 0, hu => simp at hu; subst hu; simp [Addr.add]
    | (j + 1), hu => simp at hu
  case h1 => intro u hu; simp at hu; subst hu; rfl
  case hbase => simp; omega
  case grow =>
    intro v3 w3 hown3 hgrow3 _
    obtain ⟨g, cap, hv3, _, _⟩ := hown3.form (by omega)
    rw [hv3] at hown3 ⊢
    have HP2 := Lib.hid ((HP1.out.alloc (.cells #[.int .u8 92] 5)).app (x := [92]) hgrow3 hown3 (by simp) (by rw [Lib.byteCells_append]; rfl))
    have HKp := Lib.hid ((HK0.out.alloc (Nat.le_of_lt hB1) (.cells #[.int .u8 92] 5)).trans ((HP1.out.alloc (.cells #[.int .u8 92] 5)).kp hgrow3 (.slice (some ⟨g, 0, none⟩) (d.length + 1) cap)))
    obtain ⟨c3, f3⟩ := (HP1.out.alloc (.cells #[.int .u8 92] 5)).kept hgrow3
    have HT3 := Lib.hid (show Blk (w3.setCell ⟨B, 15, none⟩ (.slice (some ⟨g, 0, none⟩) (d.length + 1) cap)) w.heap.size 119 #[.int .u8 0, .int .u8 0, .int .u8 0, .int .u8 0] from by
      refine Blk.far ?_ (by show w.heap.size ≠ B; omega) _
      refine (HT0.out.alloc (.cells #[.int .u8 92] 5)).grown hgrow3 ?_
      intro e
      obtain ⟨cs, fz, hk⟩ := own_row (HP1.out.alloc (.cells #[.int .u8 92] 5)).own w.heap.size e.symm
      rw [(HT0.out.alloc (.cells #[.int .u8 92] 5))] at hk
      injection hk with hk
      injection hk with _ e2 _
      exact absurd e2 (by decide))
    go_wp2_with fail
    generalize w3.setCell ⟨B, 15, none⟩ (.slice (some ⟨g, 0, none⟩) (d.length + 1) cap) = w4 at HP2 HKp HT3 ⊢
    have hBT : w.heap.size ≠ B := by omega
    refine (encode_at HT3.out hc1).mono ?_
    rintro e w5 ⟨rfl, ht⟩
    have hp5 := HP2.out.far ht.gr hBT HT3.out (by decide)
    have hk5 := HKp.out.far ht.gr (Nat.le_refl _) (Nat.le_of_lt hBw)
    have hB5 := hp5.lt
    have c155 := hp5.css
    have f155 := hp5.free 15
    have HOW := Lib.hid (hp5.drew.own : w5.drew.ownsRow (B + 1) 5 1 _ (d ++ [92]).length (Lib.byteCells (d ++ [92])))
    have HP5 := Lib.hid hp5
    have HK5 := Lib.hid hk5
    have HT5 := Lib.hid ht
    have HK := Lib.hid (fun (w6 : World) (g6 : w5.drew.grownBy w6 (Value.slice (some ⟨g, 0, none⟩) (d.length + 1) cap).ownBlock) => hp5.drew.kept g6)
    have hdl : (d ++ [92]).length = d.length + 1 := by simp
    have HDL := Lib.hid hdl
    clear hp5 hk5 ht c15 f15 c3 f3 hown3 hgrow3 hdl
    have hsl := slice_four ⟨w.heap.size, 0, none⟩ (Pl.enc c).length hl4
    go_wp2_with fail
    go_region_law (refine step_append_lies _ rfl (.tmp 75) (.tmp 77) 31 rfl (B + 1) 5 i0 _ 1 1 Tryf.underlying31 hi hz0 hz1 hz2 rfl (by decide) _ (d ++ [92]).length (Lib.byteCells (d ++ [92])) (by simp [Act.eval, Act.put]) HOW.out ⟨w.heap.size, 0, none⟩ (Pl.enc c).length 4 (Lib.byteCells (Pl.enc c)) (by simp [Act.eval, Act.put]) (by rw [Lib.byteCells_length, Nat.mul_one]) HT5.out.cells (byteCells_one _) (by omega) (by rw [HDL.out]; unfold maxLen; omega) (by rw [HDL.out]; omega) (by simp; omega) _ rfl ?_; intro g6 cap6 w6 hown6 hgrow6 hat6 hlt6; obtain ⟨c6, f6⟩ := HK.out _ hgrow6)
    go_wp2_with fail
    go_end0
    rw [HDL.out] at hown6
    refine ⟨rfl, ⟨_, HP5.out.drew.app (x := Pl.enc c) hgrow6 hown6 (by simp; omega) (by simp only [Lib.byteCells_append])⟩, ?_⟩
    exact HK5.out.drew.trans (HP5.out.drew.kp hgrow6 _)
end Go.Proofs.YtmomkkakjkkakaaFmt
