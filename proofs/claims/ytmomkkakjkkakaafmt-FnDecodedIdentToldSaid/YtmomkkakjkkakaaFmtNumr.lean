/-
  WALKS of digits and Numeral: a number's digits, out of bytes that came in.
-/
import Derived.Test.YtmomkkakjkkakaaFmtWc
import Derived.Test.YtmomkkakjkkakaaFmtLaw
import Derived.Test.YtmomkkakjkkakaaFmtSt
import Derived.Test.YtmomkkakjkkakaaFmtHexd
import Derived.Deep.OwnRows
import Derived.Laws.BytesArg
import Derived.Deep.Cut
import Derived.Deep.DeepCutAuto
import Derived.Deep.LoopGhost
set_option linter.unusedVariables false
set_option linter.unusedSimpArgs false
set_option maxRecDepth 100000
namespace Go.Proofs.YtmomkkakjkkakaaFmt
open Go.RowKit

theorem infoB : (Tryf.prog.info? 5).map (fun i => (i.zero, i.size, i.bytes)) = some (some (.int .u8 0), 1, 1) := by kernel_rfl
/-- a slice of bytes that came in -/
def Bytes (w : World) (base : Option Addr) (n : Nat) (f : Nat → Nat) : Prop :=
  n = 0 ∨ ∃ b off, base = some ⟨b, off, none⟩ ∧ (∀ i, i < n → w.cell? ⟨b, off + i, none⟩ = some (.int .u8 (f i))) ∧ ∀ i, i < n → f i < 256
theorem Bytes.keep {w w' : World} {base : Option Addr} {n : Nat} {f : Nat → Nat} (h : Bytes w base n f) (hb : Below w.heap.size w w') : Bytes w' base n f := by
  rcases h with h | ⟨b, off, h1, h2, h3⟩
  · exact .inl h
  · exact .inr ⟨b, off, h1, fun i hi => by rw [hb.cell (block_lt_of_cell (h2 i hi))]; exact h2 i hi, h3⟩
/-- the digits that are written -/
def dsOf (f : Nat → Nat) (n : Nat) : List Nat := (List.range n).map fun i => 48 + f i % 10
theorem dsOf_dig (f : Nat → Nat) (n : Nat) : ∀ d ∈ dsOf f n, Pl.digB (d : Int) = true := by
  intro d hd
  simp only [dsOf, List.mem_map, List.mem_range] at hd
  obtain ⟨i, _, rfl⟩ := hd
  simp only [Pl.digB, decide_eq_true_eq]; omega
theorem dsOf_len (f : Nat → Nat) (n : Nat) : (dsOf f n).length = n := by simp [dsOf]
theorem dsOf_enc (f : Nat → Nat) (n : Nat) : Pl.encs (dsOf f n) = (List.range n).map fun i => UInt8.ofNat (48 + f i % 10) := by
  rw [encs_ascii _ (fun c hc => Pl.dig_low (dsOf_dig f n) c hc)]
  simp [dsOf, List.map_map, Function.comp_def]
theorem conv_row {w : World} {b n cap : Nat} {g : Nat → Nat} (h : w.rowIs b 5 n fun i => .int .u8 (g i)) :
    (convert 31 9 (.slice (some ⟨b, 0, none⟩) n cap)).run Tryf.prog w = .ok (.string (S ((List.range n).map fun i => UInt8.ofNat (g i)))) w := by
  have hc : ∀ i, i < n → w.cell? ⟨b, 0 + i, none⟩ = some (.int .u8 (((List.range n).map fun i => (g i : Int)).getD i 0)) := by
    intro i hi
    rw [Nat.zero_add, h.cell hi]
    simp [List.getD_eq_getElem?_getD, List.getElem?_map, List.getElem?_range hi]
  have := run_convert_bytes_arg w 31 5 Tryf.underlying31 Tryf.underlying5 b 0 n cap ((List.range n).map fun i => (g i : Int)) (by simp) hc _ Tryf.underlying9
  rw [this]
  congr 2
  unfold strOfNums S
  congr 1
  rw [List.map_map]
  congr 1
theorem row_next {w : World} {b n j : Nat} {t : TypeId} {f : Nat → Nat} {v : Value} (h : w.rowIs b t n fun i => .int .u8 ((if i < j then 48 + f i % 10 else 0 : Nat) : Int)) (hf : f j < 256) (hv : v = .int .u8 (48 + (f j : Int) % 10)) :
    (w.setCell ⟨b, j, none⟩ v).rowIs b t n fun i => .int .u8 ((if i < j + 1 then 48 + f i % 10 else 0 : Nat) : Int) := by
  refine (h.set j v).congr fun i hi => ?_
  show (if i = j then v else _) = _
  by_cases e : i = j
  · subst e
    rw [if_pos rfl, if_pos (by omega), hv]
    congr 1
  · rw [if_neg e]
    by_cases e2 : i < j
    · rw [if_pos e2, if_pos (by omega)]
    · rw [if_neg e2, if_neg (by omega)]
theorem digits_some {w : World} {b off n cap : Nat} {f : Nat → Nat} (hn : n ≤ 2147483647) (hc : ∀ i, i < n → w.cell? ⟨b, off + i, none⟩ = some (.int .u8 (f i))) (hf : ∀ i, i < n → f i < 256) :
    Calls Tryf.prog 33 #[.slice (some ⟨b, off, none⟩) n cap] w fun e w' => e = .returned (.tuple #[.string (S (Pl.encs (dsOf f n))), .bool (decide (n ≤ 1000))]) ∧ Below w.heap.size w w' := by
  have hmk := run_make_row' (P := Tryf.prog) 31 5 (.int .u8 0) 1 Tryf.underlying31 infoB rfl .i64 .i64 n (by omega) (by omega)
  have HC := Lib.hid hc
  have HF := Lib.hid hf
  clear hc hf
  go_enter Tryf.func33, Tryf.ntmps33
  go_wp2_with fail
  have HR0 := Lib.hid (World.rowIs_made w (.int .u8 0) n 5)
  have HB0 := Lib.hid ((Below.refl _ w).alloc (Nat.le_refl _) (.cells (madeCells #[Value.int .u8 0] n) 5))
  generalize w.alloc (.cells (madeCells #[Value.int .u8 0] n) 5) = w1 at HR0 HB0 ⊢
  clear hmk
  go_loopg [12] n (fun k iv wr => ∃ j : Nat, k = n - j ∧ j ≤ n ∧ iv = .int .i64 j ∧ Hid (wr.rowIs w.heap.size 5 n fun i => .int .u8 ((if i < j then 48 + f i % 10 else 0 : Nat) : Int)) ∧ Hid (Below w.heap.size w wr))
  case atStart => exact ⟨0, rfl, Nat.zero_le _, rfl, Lib.hid (HR0.out.congr fun i _ => by simp), HB0⟩
  case round =>
    obtain ⟨j, rfl, hj, rfl, HR, HB⟩ := hrel
    by_cases hlt : j < n
    · have hl : (j : Int) < (n : Int) := by omega
      have hcell : wr.cell? ⟨b, off + j, none⟩ = some (.int .u8 (f j)) := by rw [HB.out.cell (block_lt_of_cell (HC.out j hlt))]; exact HC.out j hlt
      have hcell2 := HR.out.cell hlt
      have hfz := HR.out.frozen j
      have hb256 := HF.out j hlt
      go_wp2_with fail
      go_roundg (n - (j + 1))
      case measure => omega
      case rel =>
        refine ⟨j + 1, rfl, hlt, rfl, Lib.hid ?_, Lib.hid ?_⟩
        · exact row_next HR.out hb256 rfl
        · exact HB.out.setCell (Nat.le_refl _) _
    · obtain rfl : j = n := by omega
      have hcv := conv_row (cap := j) (g := fun i => 48 + f i % 10) (HR.out.congr fun i hi => by simp [hi])
      rw [← dsOf_enc] at hcv
      go_wp2_with fail
      go_ret2
      exact ⟨by simp; omega, HB.out⟩
theorem digits_nil (base : Option Addr) (cap : Nat) (f : Nat → Nat) (w : World) :
    Calls Tryf.prog 33 #[.slice base 0 cap] w fun e w' => e = .returned (.tuple #[.string (S (Pl.encs (dsOf f 0))), .bool (decide (0 ≤ 1000))]) ∧ Below w.heap.size w w' := by
  have hmk : ∀ W, (Instr.makeSlice 31 (.int .i64 0) (.int .i64 0)).run Tryf.prog W = .ok (.slice (some ⟨W.heap.size, 0, none⟩) 0 0) (W.alloc (.cells (madeCells #[Value.int .u8 0] 0) 5)) := fun W =>
    run_make_row' (P := Tryf.prog) 31 5 (.int .u8 0) 1 Tryf.underlying31 infoB rfl .i64 .i64 0 (by omega) (by omega) W
  go_enter Tryf.func33, Tryf.ntmps33
  go_wp2_with fail
  have HR0 := Lib.hid (World.rowIs_made w (.int .u8 0) 0 5)
  have HB0 := Lib.hid ((Below.refl _ w).alloc (Nat.le_refl _) (.cells (madeCells #[Value.int .u8 0] 0) 5))
  generalize w.alloc (.cells (madeCells #[Value.int .u8 0] 0) 5) = w1 at HR0 HB0 ⊢
  clear hmk
  have hcv := conv_row (cap := 0) (g := fun i => 48 + f i % 10) (HR0.out.congr fun i hi => by omega)
  rw [← dsOf_enc] at hcv
  go_loopg [12] 0 (fun k iv wr => k = 0 ∧ iv = .int .i64 0 ∧ w1 = wr)
  case atStart => exact ⟨rfl, rfl, rfl⟩
  case round =>
    obtain ⟨rfl, rfl, rfl⟩ := hrel
    go_wp2_with fail
    go_ret2
    exact ⟨by simp, HB0.out⟩
theorem digits_any {w : World} {base : Option Addr} {n cap : Nat} {f : Nat → Nat} (hn : n ≤ 2147483647) (hB : Bytes w base n f) :
    Calls Tryf.prog 33 #[.slice base n cap] w fun e w' => e = .returned (.tuple #[.string (S (Pl.encs (dsOf f n))), .bool (decide (n ≤ 1000))]) ∧ Below w.heap.size w w' := by
  rcases hB with rfl | ⟨b, off, rfl, h2, h3⟩
  · exact digits_nil base cap f w
  · exact digits_some hn h2 h3

theorem str_nil_cat (T : ByteArray) : (⟨#[]⟩ ++ T : ByteArray) = T := by cases T; simp [ByteArray.append_eq, ByteArray.ext_iff, ByteArray.data_append]
theorem str_cat_nil (T : ByteArray) : (T ++ ⟨#[]⟩ : ByteArray) = T := by cases T; simp [ByteArray.append_eq, ByteArray.ext_iff, ByteArray.data_append]
set_option maxHeartbeats 1000000 in
theorem numeral_plain {w : World} {base : Option Addr} {n cap : Nat} {f : Nat → Nat} (hn : n ≤ 2147483647) (hB : Bytes w base n f) :
    Calls Tryf.prog 18 #[.int .i64 0, .slice base n cap, .slice none 0 0, .string ⟨#[]⟩] w fun e w' => e = .returned (.tuple #[.string (S (Pl.encs (dsOf f n))), .bool (decide (n ≤ 1000) && decide (n ≠ 0))]) ∧ Below w.heap.size w w' := by
  have H1 := Lib.hid (digits_any (cap := cap) hn hB)
  have hm := dsOf_len f n
  have hl := Pl.encs_len_low (fun c hc => Pl.dig_low (dsOf_dig f n) c hc)
  clear hB
  go_enter Tryf.func18, Tryf.ntmps18
  go_upto_region 7 with (go_at_call 33; (with_reducible refine H1.out.mono ?_); rintro e w1 ⟨rfl, hb⟩; have HB := Lib.hid hb; clear hb)
  have e0 : S (Pl.encs (dsOf f 0)) = ⟨#[]⟩ := rfl
  have H2 := Lib.hid (digits_nil none 0 f w1)
  rw [e0] at H2
  have hT : (S (Pl.encs (dsOf f n))).size = n := by rw [S_size]; omega
  have hT0 : (S (Pl.encs (dsOf f n))).toList.isEmpty = decide (n = 0) := by
    have : (S (Pl.encs (dsOf f n))).toList.length = n := by rw [ByteArray.toList_eq, S_data]; omega
    cases h : (S (Pl.encs (dsOf f n))).toList with
    | nil => rw [h] at this; simp at this ⊢; omega
    | cons a b => rw [h] at this; simp at this ⊢; omega
  obtain ⟨T, hTe⟩ : ∃ T, T = S (Pl.encs (dsOf f n)) := ⟨_, rfl⟩
  rw [← hTe] at hT hT0 ⊢
  have HTE := Lib.hid hTe
  have HT0 := Lib.hid hT0
  clear e0 H1 hm hl hTe hT0
  go_upto_region 23 with (go_at_call 33; (with_reducible refine H2.out.mono ?_); rintro e w2 ⟨rfl, hb⟩; have HB2 := Lib.hid hb; clear hb)
  by_cases h1 : n ≤ 1000
  · have h1' : decide (n ≤ 1000) = true := by simp [h1]
    have H1 := Lib.hid h1'
    rw [h1']
    clear h1
    go_wp2_with fail
    all_goals go_ret2
    all_goals
      refine ⟨?_, HB.out.trans (HB2.out.mono HB.out.size)⟩
      rw [← HTE.out, H1.out]
      have := HT0.out
      simp only [str_nil_cat, str_cat_nil] at *
      simp_all
  · have h1' : decide (n ≤ 1000) = false := by simp; omega
    have H1 := Lib.hid h1'
    rw [h1']
    clear h1
    go_wp2_with fail
    all_goals go_ret2
    all_goals
      refine ⟨?_, HB.out.trans (HB2.out.mono HB.out.size)⟩
      rw [← HTE.out, H1.out]
      have := HT0.out
      simp only [str_nil_cat, str_cat_nil] at *
      simp_all
/-- a power: a sign or none, and digits -/
structure PwB (p : ByteArray) (k : Nat) : Prop where
  sgn : k = if bt p 0 = 45 ∨ bt p 0 = 43 then 1 else 0
  lt : k < p.size
  dig : ∀ i, k ≤ i → i < p.size → 48 ≤ bt p i ∧ bt p i ≤ 57
/-- what Numeral gives behind a power -/
structure NumPw (f : Nat → Nat) (n : Nat) (p : ByteArray) (w : World) (e : Ending) (w' : World) : Prop where
  out : ∃ (t : ByteArray) (b : Bool), e = .returned (.tuple #[.string t, .bool b]) ∧ (b = true ↔ (n ≤ 1000 ∧ n ≠ 0 ∧ p.size ≤ 1000 ∧ ∃ k, PwB p k)) ∧ (b = true → t = S (Pl.encs (dsOf f n)) ++ (⟨#[101]⟩ ++ p))
  below : Below w.heap.size w w'
theorem PwB.uniq {p : ByteArray} {k k' : Nat} (h : PwB p k) (h' : k' = if bt p 0 = 45 ∨ bt p 0 = 43 then 1 else 0) : k = k' := h.sgn.trans h'.symm
theorem pw_sign {p : ByteArray} (h : 0 < p.size) : ∃ k : Nat, k ≤ 1 ∧ (k = if bt p 0 = 45 ∨ bt p 0 = 43 then 1 else 0) ∧
    ((((p[0].toNat : Int) == 45) = true ∧ k = 1) ∨ (((p[0].toNat : Int) == 45) = false ∧ ((p[0].toNat : Int) == 43) = true ∧ k = 1) ∨ (((p[0].toNat : Int) == 45) = false ∧ ((p[0].toNat : Int) == 43) = false ∧ k = 0)) := by
  have e := bt_eq h
  rw [e]
  by_cases h1 : bt p 0 = 45
  · exact ⟨1, by omega, by rw [if_pos (.inl h1)], .inl ⟨by simp [h1], rfl⟩⟩
  by_cases h2 : bt p 0 = 43
  · exact ⟨1, by omega, by rw [if_pos (.inr h2)], .inr (.inl ⟨by simp; omega, by simp [h2], rfl⟩)⟩
  · exact ⟨0, by omega, by rw [if_neg (by omega)], .inr (.inr ⟨by simp; omega, by simp; omega, rfl⟩)⟩
set_option maxHeartbeats 4000000 in
theorem numeral_power {w : World} {base : Option Addr} {n cap : Nat} {f : Nat → Nat} {p : ByteArray} (hn : n ≤ 2147483647) (hp : p.size ≤ 2147483647) (hp0 : 0 < p.size) (hB : Bytes w base n f) :
    Calls Tryf.prog 18 #[.int .i64 0, .slice base n cap, .slice none 0 0, .string p] w fun e w' => NumPw f n p w e w' := by
  have H1 := Lib.hid (digits_any (cap := cap) hn hB)
  have hm := dsOf_len f n
  have hl := Pl.encs_len_low (fun c hc => Pl.dig_low (dsOf_dig f n) c hc)
  clear hB
  go_enter Tryf.func18, Tryf.ntmps18
  go_upto_region 7 with (go_at_call 33; (with_reducible refine H1.out.mono ?_); rintro e w1 ⟨rfl, hb⟩; have HB := Lib.hid hb; clear hb)
  have e0 : S (Pl.encs (dsOf f 0)) = ⟨#[]⟩ := rfl
  have H2 := Lib.hid (digits_nil none 0 f w1)
  rw [e0] at H2
  have hT : (S (Pl.encs (dsOf f n))).size = n := by rw [S_size]; omega
  have hT0 : (S (Pl.encs (dsOf f n))).toList.isEmpty = decide (n = 0) := by
    have : (S (Pl.encs (dsOf f n))).toList.length = n := by rw [ByteArray.toList_eq, S_data]; omega
    cases h : (S (Pl.encs (dsOf f n))).toList with
    | nil => rw [h] at this; simp at this ⊢; omega
    | cons a b => rw [h] at this; simp at this ⊢; omega
  obtain ⟨T, hTe⟩ : ∃ T, T = S (Pl.encs (dsOf f n)) := ⟨_, rfl⟩
  rw [← hTe] at hT hT0 ⊢
  have HTE := Lib.hid hTe
  have HT0 := Lib.hid hT0
  have hp1 : p.toList.isEmpty = false := by
    cases h : p.toList with
    | nil =>
      have h2 := congrArg List.length h
      rw [ByteArray.toList_eq, Array.length_toList, List.length_nil] at h2
      have h3 : p.size = p.data.size := rfl
      omega
    | cons a b => rfl
  clear e0 H1 hm hl hTe hT0
  go_upto_region 12 with (go_at_call 33; (with_reducible refine H2.out.mono ?_); rintro e w2 ⟨rfl, hb⟩; have HB2 := Lib.hid hb; clear hb)
  obtain ⟨k, hk1, hks, hsg⟩ := pw_sign hp0
  have HKS := Lib.hid hks
  clear hks
  go_upto_region 13 with fail
  have HB3 := Lib.hid (HB.out.trans (HB2.out.mono HB.out.size))
  clear HB HB2 H2
  go_cut [49] (fun tv wr => tv = .bool (decide (k = 1)) ∧ w2 = wr)
  case first =>
    rcases hsg with ⟨s1, rfl⟩ | ⟨s1, s2, rfl⟩ | ⟨s1, s2, rfl⟩
    all_goals
      go_wp2_with fail
      go_meet
      exact ⟨rfl, rfl⟩
  case rest =>
    obtain ⟨rfl, hwe⟩ := hcut
    subst hwe
    clear hsg
    go_upto_if 49 with fail
    go_cut [15] (fun kv wr => kv = .int .i64 k ∧ w2 = wr)
    case first =>
      rcases (show k = 0 ∨ k = 1 by omega) with rfl | rfl
      all_goals
        go_wp2_with fail
        go_meet
        exact ⟨rfl, rfl⟩
    case rest =>
      obtain ⟨rfl, hwe⟩ := hcut
      subst hwe
      go_wp2_with fail
      go_loopg [16] (p.size - k) (fun g iv wr => ∃ j : Nat, g = p.size - j ∧ j ≤ p.size ∧ k ≤ j ∧ iv = .int .i64 j ∧ w2 = wr ∧ Hid (∀ i, k ≤ i → i < j → 48 ≤ bt p i ∧ bt p i ≤ 57))
      case atStart => exact ⟨k, rfl, by omega, Nat.le_refl _, rfl, rfl, Lib.hid (fun i h1 h2 => by omega)⟩
      case round =>
        obtain ⟨j, rfl, hj, hkj, rfl, rfl, HD⟩ := hrel
        by_cases hlt : j < p.size
        · have hl : (j : Int) < (p.size : Int) := by omega
          have hbj := bt_eq hlt
          by_cases hd : 48 ≤ bt p j ∧ bt p j ≤ 57
          · have q1 : 48 ≤ (p[j].toNat : Int) := by rw [hbj]; omega
            have q2 : (p[j].toNat : Int) ≤ 57 := by rw [hbj]; omega
            have HD2 := Lib.hid (show ∀ i, k ≤ i → i < j + 1 → 48 ≤ bt p i ∧ bt p i ≤ 57 from fun i h1 h2 => by
              rcases Nat.lt_or_ge i j with q | q
              · exact HD.out i h1 q
              · obtain rfl : i = j := by omega
                exact hd)
            clear hd hbj HD
            go_wp2_with fail
            go_roundg (p.size - (j + 1))
            case measure => omega
            case rel => exact ⟨j + 1, rfl, hlt, by omega, by simp, rfl, HD2⟩
          · have HN := Lib.hid (show ¬ ∃ k, PwB p k from fun ⟨k', h⟩ => hd (h.dig j (by have := h.uniq HKS.out; omega) hlt))
            have q : (p[j].toNat : Int) < 48 ∨ (48 ≤ (p[j].toNat : Int) ∧ 57 < (p[j].toNat : Int)) := by rw [hbj]; omega
            clear hd hbj HD
            rcases q with q | ⟨q1, q2⟩
            all_goals
              go_wp2_with fail
              go_ret2
              exact ⟨⟨_, false, rfl, ⟨fun e => (by cases e), fun h => (HN.out h.2.2.2).elim⟩, fun e => (by cases e)⟩, HB3.out⟩
        · obtain rfl : p.size = j := by omega
          by_cases hke : k = p.size
          · have HN := Lib.hid (show ¬ ∃ k, PwB p k from fun ⟨k', h⟩ => by have := h.uniq HKS.out; have := h.lt; omega)
            have q : ((k : Int) == (p.size : Int)) = true := by simp; omega
            clear hke HD
            go_wp2_with fail
            go_ret2
            exact ⟨⟨_, false, rfl, ⟨fun e => (by cases e), fun h => (HN.out h.2.2.2).elim⟩, fun e => (by cases e)⟩, HB3.out⟩
          · have HY := Lib.hid (show ∃ k, PwB p k from ⟨k, HKS.out, by omega, HD.out⟩)
            have q : ((k : Int) == (p.size : Int)) = false := by simp; omega
            clear hke HD
            go_upto_region 23 with fail
            have fin : ∀ (b : Bool) (v : ByteArray), v = ⟨#[]⟩ ++ T ++ (⟨#[101]⟩ ++ p) → (b = true ↔ (n ≤ 1000 ∧ n ≠ 0 ∧ p.size ≤ 1000)) → NumPw f n p w (.returned (.tuple #[.string v, .bool b])) w2 := by
              intro b v hv hb
              refine ⟨⟨v, b, rfl, ?_, fun _ => ?_⟩, HB3.out⟩
              · rw [hb]
                exact ⟨fun h => ⟨h.1, h.2.1, h.2.2, HY.out⟩, fun h => ⟨h.1, h.2.1, h.2.2.1⟩⟩
              · rw [hv, str_nil_cat, HTE.out]
            have FIN := Lib.hid fin
            clear fin
            have hT0 := HT0.out
            by_cases h1 : n ≤ 1000 <;> by_cases h2 : n = 0 <;> by_cases h3 : p.size ≤ 1000
            all_goals
              have d1 := h1
              have d2 := h2
              have d3 := h3
              have hT1 : (T ++ ⟨#[]⟩ : ByteArray).toList.isEmpty = decide (n = 0) := by rw [str_cat_nil, hT0]
              simp only [d2, decide_true, decide_false] at hT1
              go_wp2_with fail
              all_goals go_ret2
              all_goals
                refine FIN.out _ _ rfl ?_
                clear FIN HB3 HKS HTE HY
                have hh := HT0.out
                try simp only [str_cat_nil, hh, d1, d2, d3, decide_true, decide_false]
                first | (simp; done) | (simp; omega) | (simp [d2]; omega)
end Go.Proofs.YtmomkkakjkkakaaFmt
