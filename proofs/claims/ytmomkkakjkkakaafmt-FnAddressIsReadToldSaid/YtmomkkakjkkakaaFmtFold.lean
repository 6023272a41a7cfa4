/-
  WALKS of unicode.SimpleFold at the letters of the word style, and of strings.EqualFold of five bytes and that word.
-/
import Derived.Test.YtmomkkakjkkakaaFmtKp
import Derived.Test.YtmomkkakjkkakaaFmtLawQ
import Derived.Test.YtmomkkakjkkakaaFmtDecode
import Derived.Test.YtmomkkakjkkakaaFmtSt
import Derived.Test.YtmomkkakjkkakaaFmtHexd
import Derived.Lib.TrimU
import Derived.Laws.RangeAny
import Derived.Laws.Strings3
import Derived.Lib.OthersKept
import Derived.ScopeJumps
import Derived.WalkMore
import Derived.Deep.CutBlock
import Derived.Deep.RegionWith
set_option linter.unusedVariables false
set_option linter.unusedSimpArgs false
set_option maxRecDepth 100000
namespace Go.Proofs.YtmomkkakjkkakaaFmt
open Go.RowKit

def foldPairs : List (Nat × Nat) := [(115, 383), (83, 115), (116, 84), (84, 116), (121, 89), (89, 121), (108, 76), (76, 108), (101, 69), (69, 101)]
def orbPairs : List (Nat × Nat) := [(47, 966), (23, 837), (11, 452), (5, 197), (8, 304), (10, 383), (9, 305)]
/-- two tables of package unicode, at the places that are looked at -/
structure Folds (w : World) : Prop where
  asc : ∀ p ∈ foldPairs, w.cell? ⟨2, p.1, none⟩ = some (.int .u16 p.2)
  orb : ∃ b off cap, w.cell? ⟨3, 0, none⟩ = some (.slice (some ⟨b, off, none⟩) 94 cap) ∧ (∀ p ∈ orbPairs, w.cell? ⟨b, off + p.1 * 2, none⟩ = some (.int .u16 p.2)) ∧ w.cell? ⟨b, off + 21, none⟩ = some (.int .u16 83)
theorem Folds.below {w w' : World} (h : Folds w) (k : Below w.heap.size w w') : Folds w' := by
  obtain ⟨h1, b, off, cap, h2, h3, h4⟩ := h
  refine ⟨fun p hp => ?_, b, off, cap, ?_, fun p hp => ?_, ?_⟩
  · rw [k.cell (block_lt_of_cell (h1 p hp))]; exact h1 p hp
  · rw [k.cell (block_lt_of_cell h2)]; exact h2
  · rw [k.cell (block_lt_of_cell (h3 p hp))]; exact h3 p hp
  · rw [k.cell (block_lt_of_cell h4)]; exact h4

theorem fold_low {c d : Nat} (hp : (c, d) ∈ foldPairs) (w : World) (h : Folds w) :
    Calls Tryf.prog 91 #[.int .i32 c] w fun e w' => e = .returned (.int .i32 d) ∧ w = w' := by
  have hc := h.asc _ hp
  have hb : c < 128 ∧ d < 400 ∧ 0 < c := by simp [foldPairs] at hp; omega
  clear h
  obtain ⟨hc1, hd1, hc0⟩ := hb
  simp only at hc
  go_enter Tryf.func91, Tryf.ntmps91
  go_wp2_with fail
  go_ret
  exact ⟨rfl, rfl⟩
theorem fold_383 (w : World) (h : Folds w) :
    Calls Tryf.prog 91 #[.int .i32 383] w fun e w' => e = .returned (.int .i32 83) ∧ w = w' := by
  obtain ⟨b, off, cap, h2, h3, h4⟩ := h.orb
  have c0 := h3 (47, 966) (by simp [orbPairs])
  have c1 := h3 (23, 837) (by simp [orbPairs])
  have c2 := h3 (11, 452) (by simp [orbPairs])
  have c3 := h3 (5, 197) (by simp [orbPairs])
  have c4 := h3 (8, 304) (by simp [orbPairs])
  have c5 := h3 (10, 383) (by simp [orbPairs])
  have c6 := h3 (9, 305) (by simp [orbPairs])
  clear h h3
  go_enter Tryf.func91, Tryf.ntmps91
  go_wp2_with fail
  go_loopg [3, 4] 7 (fun g lv hv wr => ∃ lo hi : Int, lv = .int .i64 lo ∧ hv = .int .i64 hi ∧ w = wr ∧ ((lo = 0 ∧ hi = 94 ∧ g = 7) ∨ (lo = 0 ∧ hi = 47 ∧ g = 6) ∨ (lo = 0 ∧ hi = 23 ∧ g = 5) ∨ (lo = 0 ∧ hi = 11 ∧ g = 4) ∨ (lo = 6 ∧ hi = 11 ∧ g = 3) ∨ (lo = 9 ∧ hi = 11 ∧ g = 2) ∨ (lo = 9 ∧ hi = 10 ∧ g = 1) ∨ (lo = 10 ∧ hi = 10 ∧ g = 0)))
  case atStart => exact ⟨0, 94, rfl, rfl, rfl, .inl ⟨rfl, rfl, rfl⟩⟩
  case round =>
    obtain ⟨lo, hi, rfl, rfl, rfl, h | h | h | h | h | h | h | h⟩ := hrel
    · obtain ⟨rfl, rfl, rfl⟩ := h
      go_wp2_with fail
      go_roundg 6
      case measure => omega
      case rel => exact ⟨0, 47, rfl, rfl, rfl, .inr (.inl ⟨rfl, rfl, rfl⟩)⟩
    · obtain ⟨rfl, rfl, rfl⟩ := h
      go_wp2_with fail
      go_roundg 5
      case measure => omega
      case rel => exact ⟨0, 23, rfl, rfl, rfl, .inr (.inr (.inl ⟨rfl, rfl, rfl⟩))⟩
    · obtain ⟨rfl, rfl, rfl⟩ := h
      go_wp2_with fail
      go_roundg 4
      case measure => omega
      case rel => exact ⟨0, 11, rfl, rfl, rfl, .inr (.inr (.inr (.inl ⟨rfl, rfl, rfl⟩)))⟩
    · obtain ⟨rfl, rfl, rfl⟩ := h
      go_wp2_with fail
      go_roundg 3
      case measure => omega
      case rel => exact ⟨6, 11, rfl, rfl, rfl, .inr (.inr (.inr (.inr (.inl ⟨rfl, rfl, rfl⟩))))⟩
    · obtain ⟨rfl, rfl, rfl⟩ := h
      go_wp2_with fail
      go_roundg 2
      case measure => omega
      case rel => exact ⟨9, 11, rfl, rfl, rfl, .inr (.inr (.inr (.inr (.inr (.inl ⟨rfl, rfl, rfl⟩)))))⟩
    · obtain ⟨rfl, rfl, rfl⟩ := h
      go_wp2_with fail
      go_roundg 1
      case measure => omega
      case rel => exact ⟨9, 10, rfl, rfl, rfl, .inr (.inr (.inr (.inr (.inr (.inr (.inl ⟨rfl, rfl, rfl⟩))))))⟩
    · obtain ⟨rfl, rfl, rfl⟩ := h
      go_wp2_with fail
      go_roundg 0
      case measure => omega
      case rel => exact ⟨10, 10, rfl, rfl, rfl, .inr (.inr (.inr (.inr (.inr (.inr (.inr ⟨rfl, rfl, rfl⟩))))))⟩
    · obtain ⟨rfl, rfl, rfl⟩ := h
      go_wp2_with fail
      go_ret
      exact ⟨rfl, rfl⟩

/-! ## EqualFold -/
def sty : List Nat := [115, 116, 121, 108, 101]
def tl (k : Nat) : ByteArray := S (Pl.encs (sty.drop k))
theorem tl0 : tl 0 = ⟨#[115, 116, 121, 108, 101]⟩ := by unfold tl; rw [encs_ascii _ (by decide)]; rfl
theorem tl_eq : ∀ k, k ≤ 5 → tl k = (⟨(sty.map UInt8.ofNat).toArray⟩ : ByteArray).extract k 5 := by
  intro k hk
  unfold tl
  rw [encs_ascii _ (by intro c hc; have h := List.mem_of_mem_drop hc; simp [sty] at h; omega)]
  rcases (show k = 0 ∨ k = 1 ∨ k = 2 ∨ k = 3 ∨ k = 4 ∨ k = 5 by omega) with rfl | rfl | rfl | rfl | rfl | rfl <;> rfl
theorem tl_size {k : Nat} (hk : k ≤ 5) : (tl k).size = 5 - k := by
  rcases (show k = 0 ∨ k = 1 ∨ k = 2 ∨ k = 3 ∨ k = 4 ∨ k = 5 by omega) with rfl | rfl | rfl | rfl | rfl | rfl <;> (rw [tl_eq _ (by omega)]; rfl)
theorem tl_ext {k j : Nat} (hk : k + j ≤ 5) : (tl k).extract j (5 - k) = tl (k + j) := by
  rw [tl_eq k (by omega), tl_eq (k + j) (by omega)]
  apply ByteArray.ext
  rw [ByteArray.data_extract, ByteArray.data_extract, ByteArray.data_extract, Array.extract_extract]
  congr 1
  omega
theorem dec_383 (s : ByteArray) (pos : Nat) (h : (Utf8.decode s pos).1 = 383) : (Utf8.decode s pos).2 = 2 := by
  have hb : ∀ k, (s.get! (pos + k)).toNat < 256 := fun k => (s.get! (pos + k)).toNat_lt
  have h0 := hb 0; have h1 := hb 1; have h2 := hb 2; have h3 := hb 3
  revert h
  simp only [Utf8.decode]
  repeat' split
  all_goals simp_all [Utf8.runeError]
  all_goals omega
theorem dec_fits (s : ByteArray) (pos : Nat) (h : pos < s.size) : pos + (Utf8.decode s pos).2 ≤ s.size := by
  simp only [Utf8.decode]
  repeat' split
  all_goals simp_all
  all_goals omega
/-- where the jump to what is no ASCII is made -/
structure Hop (y : ByteArray) (w : World) (a : Act) (w' : World) : Prop where
  wld : w' = w
  out : ∃ j : Nat, j < 5 ∧ 128 ≤ bt y j ∧ ∃ u : Nat → Value, a = ⟨(List.range 123).map u |>.toArray, []⟩ ∧ u 0 = .string y ∧ u 1 = .string (tl 0) ∧ u 5 = .int .i64 j
theorem frame_of {a : Act} {n : Nat} (hd : a.defers = []) (hn : a.tmps.size = n) : a = ⟨(List.range n).map (fun i => a.tmps.getD i (.bool false)) |>.toArray, []⟩ := by
  obtain ⟨t, d⟩ := a
  simp only at hd hn ⊢
  subst hd hn
  congr 1
  apply Array.ext
  · simp
  · intro i h1 h2
    simp [Array.getD, h1]
/-- a byte and a letter, in letters of any size -/
theorem low_yes {b : UInt8} {l : Nat} (hl : 97 ≤ l ∧ l ≤ 122) (h : b.toNat = l ∨ b.toNat + 32 = l) : Pl.lowU b l = true := by simp [Pl.lowU]; exact h
theorem styleB_at {y : ByteArray} (hy : y.size = 5) : Pl.styleB y.data.toList = true ↔ ∀ i, i < 5 → Pl.lowU (y.data.toList.getD i 0) (sty.getD i 0) = true := by
  have hl : y.data.toList.length = 5 := by rw [Array.length_toList]; exact hy
  unfold Pl.styleB
  simp only [hl, Nat.le_refl, decide_true, Bool.true_and, Bool.and_eq_true]
  constructor
  · rintro ⟨h0, h1, h2, h3, h4⟩ i hi
    rcases (show i = 0 ∨ i = 1 ∨ i = 2 ∨ i = 3 ∨ i = 4 by omega) with rfl | rfl | rfl | rfl | rfl <;> assumption
  · intro h
    exact ⟨h 0 (by omega), h 1 (by omega), h 2 (by omega), h 3 (by omega), h 4 (by omega)⟩
theorem low_bt {y : ByteArray} {i l : Nat} : Pl.lowU (y.data.toList.getD i 0) l = true ↔ (bt y i = l ∨ bt y i + 32 = l) := by
  simp [Pl.lowU, bt]
theorem dec_tl {k l : Nat} (hl : sty[k]? = some l) (w : World) (hT : Tabs w) :
    Calls Tryf.prog 73 #[.string (tl k)] w fun e w' => e = .returned (.tuple #[.int .i32 l, .int .i64 1]) ∧ Below w.heap.size w w' := by
  obtain ⟨hk, hl'⟩ := List.getElem?_eq_some_iff.1 hl
  have hd : sty.drop k = l :: sty.drop (k + 1) := by rw [List.drop_eq_getElem_cons hk, hl']
  have hlow : l < 128 := by
    have h : l ∈ sty := by rw [← hl']; exact List.getElem_mem hk
    simp [sty] at h; omega
  unfold tl
  rw [hd]
  have := decode_cons l (sty.drop (k + 1)) w (.inl (by omega)) hT
  rw [enc1 hlow] at this
  exact this
theorem sty_at {z : ByteArray} {i l : Nat} (h : z = ⟨#[115, 116, 121, 108, 101]⟩) (hi : i < z.size) (hl : (⟨#[115, 116, 121, 108, 101]⟩ : ByteArray).data.toList[i]?.map UInt8.toNat = some l) : (z[i]'hi).toNat = l := by
  subst h
  rw [List.getElem?_eq_getElem (show i < (⟨#[115, 116, 121, 108, 101]⟩ : ByteArray).data.toList.length from hi)] at hl
  simp only [Option.map_some, Option.some.injEq] at hl
  exact hl
theorem jump_ret {l : Nat} {J : Act → World → Prop} {Q : Exit → Act → World → Prop} {a : Act} {w : World} (h : Q .ret a w) : Exit.jump l J Q .ret a w := h
set_option maxHeartbeats 4000000 in
theorem fold_any {w : World} {y : ByteArray} (hy : y.size = 5) (hT : Tabs w) (hO : Folds w) :
    Calls Tryf.prog 75 #[.string y, .string ⟨#[115, 116, 121, 108, 101]⟩] w fun e w' => e = .returned (.bool (Pl.styleB y.data.toList)) ∧ Below w.heap.size w w' := by
  have hts : (tl 0).size = 5 := tl_size (by omega)
  have HT := Lib.hid hT
  have HO := Lib.hid hO
  clear hT hO
  rw [← tl0]
  go_enter Tryf.func75, Tryf.ntmps75
  go_wp2_with fail
  refine wp_scope_jumps 0 (Hop y w) (fun _ _ => 0) rfl ?_ ?_
  · go_wp2_with fail
    go_loopg [5] 5 (fun g iv wr => ∃ i : Nat, g = 5 - i ∧ i ≤ 5 ∧ iv = .int .i64 i ∧ w = wr ∧ Hid (∀ j, j < i → bt y j = sty.getD j 0 ∨ bt y j + 32 = sty.getD j 0))
    case atStart => exact ⟨0, rfl, by omega, rfl, rfl, Lib.hid (fun j h => absurd h (Nat.not_lt_zero j))⟩
    case round =>
      obtain ⟨i, rfl, hi, rfl, rfl, HD⟩ := hrel
      by_cases h5 : i = 5
      · subst h5
        have HS := Lib.hid (show Pl.styleB y.data.toList = true from (styleB_at hy).2 fun i hi => low_bt.2 (HD.out i hi))
        go_wp2_with fail
        refine jump_ret ?_
        go_ret
        exact ⟨ret_bool HS.out.symm, Below.refl _ _⟩
      · rcases (show i = 0 ∨ i = 1 ∨ i = 2 ∨ i = 3 ∨ i = 4 by omega) with rfl | rfl | rfl | rfl | rfl
        · have hk : 0 < y.size := by omega
          have hkt : 0 < (tl 0).size := by omega
          have htl : ((tl 0)[0]'hkt).toNat = 115 := sty_at tl0 hkt rfl
          have hbe := bt_eq hk
          have hor : bits .or .u8 (y[0].toNat : Int) 115 = ((y[0].toNat ||| 115 : Nat) : Int) := u8_or_nat _ 115 (UInt8.toNat_lt _) (by decide)
          have HNO := Lib.hid (fun (h : ¬ (bt y 0 = 115 ∨ bt y 0 + 32 = 115)) => (show Pl.styleB y.data.toList = false from by
            cases hs : Pl.styleB y.data.toList with
            | false => rfl
            | true => exact absurd (low_bt.1 ((styleB_at hy).1 hs 0 (by omega))) h))
          by_cases hbig : 128 ≤ y[0].toNat
          · have hq : 128 ≤ y[0].toNat ||| 115 := by have := Nat.left_le_or (n := y[0].toNat) (m := 115); omega
            have HBE := Lib.hid (show 128 ≤ bt y 0 by omega)
            clear hbe
            go_wp2_with fail
            refine wp_goto ⟨rfl, rfl, 0, by omega, HBE.out, _, frame_of rfl rfl, rfl, rfl, rfl⟩
          · have hq : ((y[0].toNat ||| 115 : Nat) : Int) < 128 := by have := Nat.or_lt_two_pow (n := 7) (x := y[0].toNat) (y := 115) (by omega) (by omega); omega
            have HYES := Lib.hid (fun (h : bt y 0 = 115 ∨ bt y 0 + 32 = 115) => (show ∀ j, j < 1 → bt y j = sty.getD j 0 ∨ bt y j + 32 = sty.getD j 0 from fun j hj => by
              rcases Nat.lt_or_ge j 0 with q | q
              · exact HD.out j q
              · obtain rfl : j = 0 := by omega
                exact h))
            have HBE := Lib.hid hbe
            clear hbe HD
            go_wp2_with fail
            all_goals (try simp only [beq_iff_eq, beq_eq_false_iff_ne, ne_eq] at *)
            all_goals first
              | (go_roundg (5 - (0 + 1))
                 case measure => omega
                 case rel => exact ⟨1, rfl, by omega, by first | rfl | simp, rfl, Lib.hid (HYES.out (by have := HBE.out; omega))⟩)
              | (refine jump_ret ?_
                 go_ret
                 exact ⟨ret_bool (HNO.out (by have := HBE.out; omega)).symm, Below.refl _ _⟩)
        · have hk : 1 < y.size := by omega
          have hkt : 1 < (tl 0).size := by omega
          have htl : ((tl 0)[1]'hkt).toNat = 116 := sty_at tl0 hkt rfl
          have hbe := bt_eq hk
          have hor : bits .or .u8 (y[1].toNat : Int) 116 = ((y[1].toNat ||| 116 : Nat) : Int) := u8_or_nat _ 116 (UInt8.toNat_lt _) (by decide)
          have HNO := Lib.hid (fun (h : ¬ (bt y 1 = 116 ∨ bt y 1 + 32 = 116)) => (show Pl.styleB y.data.toList = false from by
            cases hs : Pl.styleB y.data.toList with
            | false => rfl
            | true => exact absurd (low_bt.1 ((styleB_at hy).1 hs 1 (by omega))) h))
          by_cases hbig : 128 ≤ y[1].toNat
          · have hq : 128 ≤ y[1].toNat ||| 116 := by have := Nat.left_le_or (n := y[1].toNat) (m := 116); omega
            have HBE := Lib.hid (show 128 ≤ bt y 1 by omega)
            clear hbe
            go_wp2_with fail
            refine wp_goto ⟨rfl, rfl, 1, by omega, HBE.out, _, frame_of rfl rfl, rfl, rfl, rfl⟩
          · have hq : ((y[1].toNat ||| 116 : Nat) : Int) < 128 := by have := Nat.or_lt_two_pow (n := 7) (x := y[1].toNat) (y := 116) (by omega) (by omega); omega
            have HYES := Lib.hid (fun (h : bt y 1 = 116 ∨ bt y 1 + 32 = 116) => (show ∀ j, j < 2 → bt y j = sty.getD j 0 ∨ bt y j + 32 = sty.getD j 0 from fun j hj => by
              rcases Nat.lt_or_ge j 1 with q | q
              · exact HD.out j q
              · obtain rfl : j = 1 := by omega
                exact h))
            have HBE := Lib.hid hbe
            clear hbe HD
            go_wp2_with fail
            all_goals (try simp only [beq_iff_eq, beq_eq_false_iff_ne, ne_eq] at *)
            all_goals first
              | (go_roundg (5 - (1 + 1))
                 case measure => omega
                 case rel => exact ⟨2, rfl, by omega, by first | rfl | simp, rfl, Lib.hid (HYES.out (by have := HBE.out; omega))⟩)
              | (refine jump_ret ?_
                 go_ret
                 exact ⟨ret_bool (HNO.out (by have := HBE.out; omega)).symm, Below.refl _ _⟩)
        · have hk : 2 < y.size := by omega
          have hkt : 2 < (tl 0).size := by omega
          have htl : ((tl 0)[2]'hkt).toNat = 121 := sty_at tl0 hkt rfl
          have hbe := bt_eq hk
          have hor : bits .or .u8 (y[2].toNat : Int) 121 = ((y[2].toNat ||| 121 : Nat) : Int) := u8_or_nat _ 121 (UInt8.toNat_lt _) (by decide)
          have HNO := Lib.hid (fun (h : ¬ (bt y 2 = 121 ∨ bt y 2 + 32 = 121)) => (show Pl.styleB y.data.toList = false from by
            cases hs : Pl.styleB y.data.toList with
            | false => rfl
            | true => exact absurd (low_bt.1 ((styleB_at hy).1 hs 2 (by omega))) h))
          by_cases hbig : 128 ≤ y[2].toNat
          · have hq : 128 ≤ y[2].toNat ||| 121 := by have := Nat.left_le_or (n := y[2].toNat) (m := 121); omega
            have HBE := Lib.hid (show 128 ≤ bt y 2 by omega)
            clear hbe
            go_wp2_with fail
            refine wp_goto ⟨rfl, rfl, 2, by omega, HBE.out, _, frame_of rfl rfl, rfl, rfl, rfl⟩
          · have hq : ((y[2].toNat ||| 121 : Nat) : Int) < 128 := by have := Nat.or_lt_two_pow (n := 7) (x := y[2].toNat) (y := 121) (by omega) (by omega); omega
            have HYES := Lib.hid (fun (h : bt y 2 = 121 ∨ bt y 2 + 32 = 121) => (show ∀ j, j < 3 → bt y j = sty.getD j 0 ∨ bt y j + 32 = sty.getD j 0 from fun j hj => by
              rcases Nat.lt_or_ge j 2 with q | q
              · exact HD.out j q
              · obtain rfl : j = 2 := by omega
                exact h))
            have HBE := Lib.hid hbe
            clear hbe HD
            go_wp2_with fail
            all_goals (try simp only [beq_iff_eq, beq_eq_false_iff_ne, ne_eq] at *)
            all_goals first
              | (go_roundg (5 - (2 + 1))
                 case measure => omega
                 case rel => exact ⟨3, rfl, by omega, by first | rfl | simp, rfl, Lib.hid (HYES.out (by have := HBE.out; omega))⟩)
              | (refine jump_ret ?_
                 go_ret
                 exact ⟨ret_bool (HNO.out (by have := HBE.out; omega)).symm, Below.refl _ _⟩)
        · have hk : 3 < y.size := by omega
          have hkt : 3 < (tl 0).size := by omega
          have htl : ((tl 0)[3]'hkt).toNat = 108 := sty_at tl0 hkt rfl
          have hbe := bt_eq hk
          have hor : bits .or .u8 (y[3].toNat : Int) 108 = ((y[3].toNat ||| 108 : Nat) : Int) := u8_or_nat _ 108 (UInt8.toNat_lt _) (by decide)
          have HNO := Lib.hid (fun (h : ¬ (bt y 3 = 108 ∨ bt y 3 + 32 = 108)) => (show Pl.styleB y.data.toList = false from by
            cases hs : Pl.styleB y.data.toList with
            | false => rfl
            | true => exact absurd (low_bt.1 ((styleB_at hy).1 hs 3 (by omega))) h))
          by_cases hbig : 128 ≤ y[3].toNat
          · have hq : 128 ≤ y[3].toNat ||| 108 := by have := Nat.left_le_or (n := y[3].toNat) (m := 108); omega
            have HBE := Lib.hid (show 128 ≤ bt y 3 by omega)
            clear hbe
            go_wp2_with fail
            refine wp_goto ⟨rfl, rfl, 3, by omega, HBE.out, _, frame_of rfl rfl, rfl, rfl, rfl⟩
          · have hq : ((y[3].toNat ||| 108 : Nat) : Int) < 128 := by have := Nat.or_lt_two_pow (n := 7) (x := y[3].toNat) (y := 108) (by omega) (by omega); omega
            have HYES := Lib.hid (fun (h : bt y 3 = 108 ∨ bt y 3 + 32 = 108) => (show ∀ j, j < 4 → bt y j = sty.getD j 0 ∨ bt y j + 32 = sty.getD j 0 from fun j hj => by
              rcases Nat.lt_or_ge j 3 with q | q
              · exact HD.out j q
              · obtain rfl : j = 3 := by omega
                exact h))
            have HBE := Lib.hid hbe
            clear hbe HD
            go_wp2_with fail
            all_goals (try simp only [beq_iff_eq, beq_eq_false_iff_ne, ne_eq] at *)
            all_goals first
              | (go_roundg (5 - (3 + 1))
                 case measure => omega
                 case rel => exact ⟨4, rfl, by omega, by first | rfl | simp, rfl, Lib.hid (HYES.out (by have := HBE.out; omega))⟩)
              | (refine jump_ret ?_
                 go_ret
                 exact ⟨ret_bool (HNO.out (by have := HBE.out; omega)).symm, Below.refl _ _⟩)
        · have hk : 4 < y.size := by omega
          have hkt : 4 < (tl 0).size := by omega
          have htl : ((tl 0)[4]'hkt).toNat = 101 := sty_at tl0 hkt rfl
          have hbe := bt_eq hk
          have hor : bits .or .u8 (y[4].toNat : Int) 101 = ((y[4].toNat ||| 101 : Nat) : Int) := u8_or_nat _ 101 (UInt8.toNat_lt _) (by decide)
          have HNO := Lib.hid (fun (h : ¬ (bt y 4 = 101 ∨ bt y 4 + 32 = 101)) => (show Pl.styleB y.data.toList = false from by
            cases hs : Pl.styleB y.data.toList with
            | false => rfl
            | true => exact absurd (low_bt.1 ((styleB_at hy).1 hs 4 (by omega))) h))
          by_cases hbig : 128 ≤ y[4].toNat
          · have hq : 128 ≤ y[4].toNat ||| 101 := by have := Nat.left_le_or (n := y[4].toNat) (m := 101); omega
            have HBE := Lib.hid (show 128 ≤ bt y 4 by omega)
            clear hbe
            go_wp2_with fail
            refine wp_goto ⟨rfl, rfl, 4, by omega, HBE.out, _, frame_of rfl rfl, rfl, rfl, rfl⟩
          · have hq : ((y[4].toNat ||| 101 : Nat) : Int) < 128 := by have := Nat.or_lt_two_pow (n := 7) (x := y[4].toNat) (y := 101) (by omega) (by omega); omega
            have HYES := Lib.hid (fun (h : bt y 4 = 101 ∨ bt y 4 + 32 = 101) => (show ∀ j, j < 5 → bt y j = sty.getD j 0 ∨ bt y j + 32 = sty.getD j 0 from fun j hj => by
              rcases Nat.lt_or_ge j 4 with q | q
              · exact HD.out j q
              · obtain rfl : j = 4 := by omega
                exact h))
            have HBE := Lib.hid hbe
            clear hbe HD
            go_wp2_with fail
            all_goals (try simp only [beq_iff_eq, beq_eq_false_iff_ne, ne_eq] at *)
            all_goals first
              | (go_roundg (5 - (4 + 1))
                 case measure => omega
                 case rel => exact ⟨5, rfl, by omega, by first | rfl | simp, rfl, Lib.hid (HYES.out (by have := HBE.out; omega))⟩)
              | (refine jump_ret ?_
                 go_ret
                 exact ⟨ret_bool (HNO.out (by have := HBE.out; omega)).symm, Below.refl _ _⟩)
  · rintro a w' ⟨rfl, j, hj, hb, u, rfl, h0, h1, h5⟩
    show Code.wp _ _ _ ⟨#[u 0, u 1, u 2, u 3, u 4, u 5, u 6, u 7, u 8, u 9, u 10, u 11, u 12, u 13, u 14, u 15, u 16, u 17, u 18, u 19, u 20, u 21, u 22, u 23, u 24, u 25, u 26, u 27, u 28, u 29, u 30, u 31, u 32, u 33, u 34, u 35, u 36, u 37, u 38, u 39, u 40, u 41, u 42, u 43, u 44, u 45, u 46, u 47, u 48, u 49, u 50, u 51, u 52, u 53, u 54, u 55, u 56, u 57, u 58, u 59, u 60, u 61, u 62, u 63, u 64, u 65, u 66, u 67, u 68, u 69, u 70, u 71, u 72, u 73, u 74, u 75, u 76, u 77, u 78, u 79, u 80, u 81, u 82, u 83, u 84, u 85, u 86, u 87, u 88, u 89, u 90, u 91, u 92, u 93, u 94, u 95, u 96, u 97, u 98, u 99, u 100, u 101, u 102, u 103, u 104, u 105, u 106, u 107, u 108, u 109, u 110, u 111, u 112, u 113, u 114, u 115, u 116, u 117, u 118, u 119, u 120, u 121, u 122], []⟩ _
    rw [h0, h1, h5]
    have hx : (tl 0).extract j 5 = tl j := by have := tl_ext (k := 0) (j := j) (by omega); rw [Nat.zero_add] at this; exact this
    have hts : (tl 0).size = 5 := tl_size (by omega)
    have hyx : (y.extract j 5).size = 5 - j := by rw [ByteArray.size_extract]; omega
    have hyb : bt (y.extract j 5) 0 = bt y j := by unfold bt; rw [ByteArray.data_extract, Array.toList_extract, List.extract_eq_take_drop, List.getD_eq_getElem?_getD, List.getD_eq_getElem?_getD, List.getElem?_take, if_pos (by omega), List.getElem?_drop, Nat.add_zero]
    obtain ⟨Z, hZ⟩ : ∃ Z, y.extract j 5 = Z := ⟨_, rfl⟩
    have HSF := Lib.hid (show Pl.styleB y.data.toList = false from by
      cases hs : Pl.styleB y.data.toList with
      | false => rfl
      | true =>
        have h := low_bt.1 ((styleB_at hy).1 hs j hj)
        have hq : sty.getD j 0 < 128 := by
          rcases (show j = 0 ∨ j = 1 ∨ j = 2 ∨ j = 3 ∨ j = 4 by omega) with rfl | rfl | rfl | rfl | rfl <;> decide
        omega)
    clear h0 h1 h5
    go_upto_region 16 with fail
    rw [hZ] at hyx hyb
    have HZB := Lib.hid (show 128 ≤ bt Z 0 by omega)
    clear hyb hb hZ hx
    have HI0 := Lib.hid (show (w'.iter Z 0).heap[w'.heap.size]? = some (.stringIter Z 0) from World.iter_heap w' Z 0)
    have HB0 := Lib.hid (show Below w'.heap.size w' (w'.iter Z 0) from (Below.refl _ w').alloc (Nat.le_refl _) (.stringIter Z 0))
    go_wp2_with fail
    go_loopg [1] (5 - j) (fun g tv wr => ∃ p k : Nat, g = 5 - j - p ∧ tv = .string (tl k) ∧ p ≤ 5 - j ∧ k < 5 ∧ Hid ((p = 0 ∧ k = j) ∨ (j = 0 ∧ k < p)) ∧ Hid (wr.heap[w'.heap.size]? = some (.stringIter Z p)) ∧ Hid (Below w'.heap.size w' wr))
    case atStart => exact ⟨0, j, rfl, rfl, Nat.zero_le _, hj, Lib.hid (.inl ⟨rfl, rfl⟩), HI0, HB0⟩
    case round =>
      clear HI0 HB0
      obtain ⟨p, k, rfl, rfl, hp, hk5, HC, HI, HB⟩ := hrel
      by_cases hlt : p < 5 - j
      · have hltz : p < Z.size := by omega
        obtain ⟨c, n, hdec⟩ : ∃ c n, Utf8.decode Z p = (c, n) := ⟨_, _, rfl⟩
        have hc1 : c ≤ 1114111 := by have := Lib.rune_le Z p; rw [hdec] at this; exact this
        have hn1 : 1 ≤ n := by have := Lib.width_pos Z p; rw [hdec] at this; exact this
        have hfit : p + n ≤ 5 - j := by have := dec_fits Z p hltz; rw [hdec] at this; simp only at this; omega
        have h383 : c = 383 → n = 2 := by have := dec_383 Z p; rw [hdec] at this; exact this
        have hlow : c < 128 → j = 0 ∧ k < p := by
          intro hc
          rcases HC.out with ⟨rfl, rfl⟩ | h
          · have h0 : 0 < Z.size := hltz
            have h1 := bt_eq h0
            have := (decode_high Z 0 h0 (by have := HZB.out; omega)).1
            rw [hdec] at this
            simp only at this
            omega
          · exact h
        have hk0 : k = 0 → p = 0 ∨ c < 1114112 := fun _ => .inr (by omega)
        have HIN := Lib.hid (And.intro hfit (And.intro h383 hlow))
        have hnx := fun ty => Lib.run_next_any_at (P := Tryf.prog) wr w'.heap.size Z p ty HI.out hltz
        rw [hdec] at hnx
        simp only at hnx
        have HI3 := Lib.hid (Lib.iterAt_heap wr w'.heap.size Z p (p + n) HI.out)
        have HB3 := Lib.hid (Lib.below_iterAt HB.out (Nat.le_refl _) Z (p + n))
        clear hdec hfit h383 hlow hk0
        go_upto_region 18 with fail
        clear hnx HI HB
        generalize wr.iterAt w'.heap.size Z (p + n) = w3 at HI3 HB3 ⊢
        have HTB := Lib.hid (HT.out.below HB3.out)
        have HOB := Lib.hid (HO.out.below HB3.out)
        rcases (show k = 0 ∨ k = 1 ∨ k = 2 ∨ k = 3 ∨ k = 4 by omega) with rfl | rfl | rfl | rfl | rfl
        · have HDC := Lib.hid (fun W (h : Tabs W) => (show Calls Tryf.prog 73 #[.string (tl 0)] W fun e w' => e = .returned (.tuple #[.int .i32 115, .int .i64 1]) ∧ Below W.heap.size W w' from dec_tl (k := 0) (l := 115) rfl W h))
          have hsk : (tl 0).size = 5 := tl_size (by omega)
          have hsx : (tl 0).extract 1 5 = tl 1 := tl_ext (k := 0) (j := 1) (by omega)
          by_cases hbig : 128 ≤ c
          · have e1 : ((115 : Int) == (c : Int)) = false := by simp; omega
            have e2 : (115 : Int) < (c : Int) := by omega
            have e3 : (128 : Int) ≤ (c : Int) := by omega
            have HF115 := Lib.hid (fun W (h : Folds W) => (show Calls Tryf.prog 91 #[.int .i32 115] W fun e w' => e = .returned (.int .i32 383) ∧ W = w' from fold_low (c := 115) (d := 383) (by decide) W h))
            have HF83 := Lib.hid (fun W (h : Folds W) => (show Calls Tryf.prog 91 #[.int .i32 83] W fun e w' => e = .returned (.int .i32 115) ∧ W = w' from fold_low (c := 83) (d := 115) (by decide) W h))
            have hcase : c = 383 ∨ c < 383 ∨ 383 < c := by omega
            rcases hcase with h | h | h
            · have e5 : ((383 : Int) == (c : Int)) = true := by simp; omega
              have e6 : ¬ (383 : Int) < (c : Int) := by omega
              go_wp2_with (first
                | (go_at_call 73; (with_reducible refine (HDC.out _ HTB.out).mono ?_); rintro e w4 ⟨rfl, hb4⟩; have HB4 := Lib.hid hb4; have HO4 := Lib.hid (HOB.out.below hb4); clear hb4)
                | (go_at_call 91; (with_reducible refine (HF115.out _ HO4.out).mono ?_); rintro e w5 ⟨rfl, rfl⟩))
              have HB5 := Lib.hid (HB3.out.trans (HB4.out.mono HB3.out.size))
              go_loopg [13] 0 (fun g rv wr => Hid (w4 = wr) ∧ ((g = 0 ∧ rv = .int .i32 383)))
              case atStart => exact ⟨Lib.hid rfl, ⟨rfl, rfl⟩⟩
              case round =>
                obtain ⟨HW, h⟩ := hrel
                obtain ⟨rfl, rfl⟩ := h
                obtain rfl := HW.out
                go_wp2_with fail
                go_roundg (5 - j - (p + n))
                case measure => omega
                case rel => exact ⟨p + n, 1, rfl, rfl, HIN.out.1, by omega, Lib.hid (.inr ⟨by have := HC.out; omega, by have := HIN.out.2.1 h; omega⟩), Lib.hid ((HB4.out.block _ (Array.getElem?_eq_some_iff.1 HI3.out).1).trans HI3.out), HB5⟩
            · have e5 : ((383 : Int) == (c : Int)) = false := by simp; omega
              have e6 : ¬ (383 : Int) < (c : Int) := by omega
              go_wp2_with (first
                | (go_at_call 73; (with_reducible refine (HDC.out _ HTB.out).mono ?_); rintro e w4 ⟨rfl, hb4⟩; have HB4 := Lib.hid hb4; have HO4 := Lib.hid (HOB.out.below hb4); clear hb4)
                | (go_at_call 91; (with_reducible refine (HF115.out _ HO4.out).mono ?_); rintro e w5 ⟨rfl, rfl⟩))
              have HB5 := Lib.hid (HB3.out.trans (HB4.out.mono HB3.out.size))
              go_loopg [13] 0 (fun g rv wr => Hid (w4 = wr) ∧ ((g = 0 ∧ rv = .int .i32 383)))
              case atStart => exact ⟨Lib.hid rfl, ⟨rfl, rfl⟩⟩
              case round =>
                obtain ⟨HW, h⟩ := hrel
                obtain ⟨rfl, rfl⟩ := h
                obtain rfl := HW.out
                go_wp2_with fail
                refine jump_ret ?_
                go_ret
                exact ⟨ret_bool HSF.out.symm, HB5.out⟩
            · have e5 : ((383 : Int) == (c : Int)) = false := by simp; omega
              have e6 : (383 : Int) < (c : Int) := by omega
              have e7 : (83 : Int) < (c : Int) := by omega
              go_wp2_with (first
                | (go_at_call 73; (with_reducible refine (HDC.out _ HTB.out).mono ?_); rintro e w4 ⟨rfl, hb4⟩; have HB4 := Lib.hid hb4; have HO4 := Lib.hid (HOB.out.below hb4); clear hb4)
                | (go_at_call 91; (with_reducible refine (HF115.out _ HO4.out).mono ?_); rintro e w5 ⟨rfl, rfl⟩))
              have HB5 := Lib.hid (HB3.out.trans (HB4.out.mono HB3.out.size))
              go_loopg [13] 2 (fun g rv wr => Hid (w4 = wr) ∧ ((g = 2 ∧ rv = .int .i32 383) ∨ (g = 1 ∧ rv = .int .i32 83) ∨ (g = 0 ∧ rv = .int .i32 115)))
              case atStart => exact ⟨Lib.hid rfl, .inl ⟨rfl, rfl⟩⟩
              case round =>
                obtain ⟨HW, h | h | h⟩ := hrel
                · obtain ⟨rfl, rfl⟩ := h
                  obtain rfl := HW.out
                  go_wp2_with (go_at_call 91; (with_reducible refine (fold_383 _ HO4.out).mono ?_); rintro e w5 ⟨rfl, rfl⟩)
                  go_roundg 1
                  case measure => omega
                  case rel => exact ⟨Lib.hid rfl, .inr (.inl ⟨rfl, rfl⟩)⟩
                · obtain ⟨rfl, rfl⟩ := h
                  obtain rfl := HW.out
                  go_wp2_with (go_at_call 91; (with_reducible refine (HF83.out _ HO4.out).mono ?_); rintro e w5 ⟨rfl, rfl⟩)
                  go_roundg 0
                  case measure => omega
                  case rel => exact ⟨Lib.hid rfl, .inr (.inr ⟨rfl, rfl⟩)⟩
                · obtain ⟨rfl, rfl⟩ := h
                  obtain rfl := HW.out
                  go_wp2_with fail
                  refine jump_ret ?_
                  go_ret
                  exact ⟨ret_bool HSF.out.symm, HB5.out⟩
          · have hjk := HIN.out.2.2 (by omega)
            have HJK := Lib.hid hjk
            clear hjk
            go_wp2_with (go_at_call 73; (with_reducible refine (HDC.out _ HTB.out).mono ?_); rintro e w4 ⟨rfl, hb4⟩; have HB4 := Lib.hid hb4; have HO4 := Lib.hid (HOB.out.below hb4); clear hb4)
            have HB5 := Lib.hid (HB3.out.trans (HB4.out.mono HB3.out.size))
            all_goals (try simp only [beq_iff_eq, beq_eq_false_iff_ne, ne_eq] at *)
            all_goals first
              | (go_roundg (5 - j - (p + n))
                 case measure => omega
                 case rel => exact ⟨p + n, 1, rfl, rfl, HIN.out.1, by omega, Lib.hid (.inr ⟨HJK.out.1, by have := HJK.out.2; omega⟩), Lib.hid ((HB4.out.block _ (Array.getElem?_eq_some_iff.1 HI3.out).1).trans HI3.out), HB3.out.trans (HB4.out.mono HB3.out.size) |> Lib.hid⟩)
              | (refine jump_ret ?_
                 go_ret
                 exact ⟨ret_bool HSF.out.symm, HB3.out.trans (HB4.out.mono HB3.out.size)⟩)
        · have HDC := Lib.hid (fun W (h : Tabs W) => (show Calls Tryf.prog 73 #[.string (tl 1)] W fun e w' => e = .returned (.tuple #[.int .i32 116, .int .i64 1]) ∧ Below W.heap.size W w' from dec_tl (k := 1) (l := 116) rfl W h))
          have hsk : (tl 1).size = 4 := tl_size (by omega)
          have hsx : (tl 1).extract 1 4 = tl 2 := tl_ext (k := 1) (j := 1) (by omega)
          by_cases hbig : 128 ≤ c
          · have e1 : ((116 : Int) == (c : Int)) = false := by simp; omega
            have e2 : (116 : Int) < (c : Int) := by omega
            have e3 : (128 : Int) ≤ (c : Int) := by omega
            have HF116 := Lib.hid (fun W (h : Folds W) => (show Calls Tryf.prog 91 #[.int .i32 116] W fun e w' => e = .returned (.int .i32 84) ∧ W = w' from fold_low (c := 116) (d := 84) (by decide) W h))
            have HF84 := Lib.hid (fun W (h : Folds W) => (show Calls Tryf.prog 91 #[.int .i32 84] W fun e w' => e = .returned (.int .i32 116) ∧ W = w' from fold_low (c := 84) (d := 116) (by decide) W h))
            have e6 : (84 : Int) < (c : Int) := by omega
            go_wp2_with (first
              | (go_at_call 73; (with_reducible refine (HDC.out _ HTB.out).mono ?_); rintro e w4 ⟨rfl, hb4⟩; have HB4 := Lib.hid hb4; have HO4 := Lib.hid (HOB.out.below hb4); clear hb4)
              | (go_at_call 91; (with_reducible refine (HF116.out _ HO4.out).mono ?_); rintro e w5 ⟨rfl, rfl⟩))
            have HB5 := Lib.hid (HB3.out.trans (HB4.out.mono HB3.out.size))
            go_loopg [13] 1 (fun g rv wr => Hid (w4 = wr) ∧ ((g = 1 ∧ rv = .int .i32 84) ∨ (g = 0 ∧ rv = .int .i32 116)))
            case atStart => exact ⟨Lib.hid rfl, .inl ⟨rfl, rfl⟩⟩
            case round =>
              obtain ⟨HW, h | h⟩ := hrel
              · obtain ⟨rfl, rfl⟩ := h
                obtain rfl := HW.out
                go_wp2_with (go_at_call 91; (with_reducible refine (HF84.out _ HO4.out).mono ?_); rintro e w5 ⟨rfl, rfl⟩)
                go_roundg 0
                case measure => omega
                case rel => exact ⟨Lib.hid rfl, .inr ⟨rfl, rfl⟩⟩
              · obtain ⟨rfl, rfl⟩ := h
                obtain rfl := HW.out
                go_wp2_with fail
                refine jump_ret ?_
                go_ret
                exact ⟨ret_bool HSF.out.symm, HB5.out⟩
          · have hjk := HIN.out.2.2 (by omega)
            have HJK := Lib.hid hjk
            clear hjk
            go_wp2_with (go_at_call 73; (with_reducible refine (HDC.out _ HTB.out).mono ?_); rintro e w4 ⟨rfl, hb4⟩; have HB4 := Lib.hid hb4; have HO4 := Lib.hid (HOB.out.below hb4); clear hb4)
            have HB5 := Lib.hid (HB3.out.trans (HB4.out.mono HB3.out.size))
            all_goals (try simp only [beq_iff_eq, beq_eq_false_iff_ne, ne_eq] at *)
            all_goals first
              | (go_roundg (5 - j - (p + n))
                 case measure => omega
                 case rel => exact ⟨p + n, 2, rfl, rfl, HIN.out.1, by omega, Lib.hid (.inr ⟨HJK.out.1, by have := HJK.out.2; omega⟩), Lib.hid ((HB4.out.block _ (Array.getElem?_eq_some_iff.1 HI3.out).1).trans HI3.out), HB3.out.trans (HB4.out.mono HB3.out.size) |> Lib.hid⟩)
              | (refine jump_ret ?_
                 go_ret
                 exact ⟨ret_bool HSF.out.symm, HB3.out.trans (HB4.out.mono HB3.out.size)⟩)
        · have HDC := Lib.hid (fun W (h : Tabs W) => (show Calls Tryf.prog 73 #[.string (tl 2)] W fun e w' => e = .returned (.tuple #[.int .i32 121, .int .i64 1]) ∧ Below W.heap.size W w' from dec_tl (k := 2) (l := 121) rfl W h))
          have hsk : (tl 2).size = 3 := tl_size (by omega)
          have hsx : (tl 2).extract 1 3 = tl 3 := tl_ext (k := 2) (j := 1) (by omega)
          by_cases hbig : 128 ≤ c
          · have e1 : ((121 : Int) == (c : Int)) = false := by simp; omega
            have e2 : (121 : Int) < (c : Int) := by omega
            have e3 : (128 : Int) ≤ (c : Int) := by omega
            have HF121 := Lib.hid (fun W (h : Folds W) => (show Calls Tryf.prog 91 #[.int .i32 121] W fun e w' => e = .returned (.int .i32 89) ∧ W = w' from fold_low (c := 121) (d := 89) (by decide) W h))
            have HF89 := Lib.hid (fun W (h : Folds W) => (show Calls Tryf.prog 91 #[.int .i32 89] W fun e w' => e = .returned (.int .i32 121) ∧ W = w' from fold_low (c := 89) (d := 121) (by decide) W h))
            have e6 : (89 : Int) < (c : Int) := by omega
            go_wp2_with (first
              | (go_at_call 73; (with_reducible refine (HDC.out _ HTB.out).mono ?_); rintro e w4 ⟨rfl, hb4⟩; have HB4 := Lib.hid hb4; have HO4 := Lib.hid (HOB.out.below hb4); clear hb4)
              | (go_at_call 91; (with_reducible refine (HF121.out _ HO4.out).mono ?_); rintro e w5 ⟨rfl, rfl⟩))
            have HB5 := Lib.hid (HB3.out.trans (HB4.out.mono HB3.out.size))
            go_loopg [13] 1 (fun g rv wr => Hid (w4 = wr) ∧ ((g = 1 ∧ rv = .int .i32 89) ∨ (g = 0 ∧ rv = .int .i32 121)))
            case atStart => exact ⟨Lib.hid rfl, .inl ⟨rfl, rfl⟩⟩
            case round =>
              obtain ⟨HW, h | h⟩ := hrel
              · obtain ⟨rfl, rfl⟩ := h
                obtain rfl := HW.out
                go_wp2_with (go_at_call 91; (with_reducible refine (HF89.out _ HO4.out).mono ?_); rintro e w5 ⟨rfl, rfl⟩)
                go_roundg 0
                case measure => omega
                case rel => exact ⟨Lib.hid rfl, .inr ⟨rfl, rfl⟩⟩
              · obtain ⟨rfl, rfl⟩ := h
                obtain rfl := HW.out
                go_wp2_with fail
                refine jump_ret ?_
                go_ret
                exact ⟨ret_bool HSF.out.symm, HB5.out⟩
          · have hjk := HIN.out.2.2 (by omega)
            have HJK := Lib.hid hjk
            clear hjk
            go_wp2_with (go_at_call 73; (with_reducible refine (HDC.out _ HTB.out).mono ?_); rintro e w4 ⟨rfl, hb4⟩; have HB4 := Lib.hid hb4; have HO4 := Lib.hid (HOB.out.below hb4); clear hb4)
            have HB5 := Lib.hid (HB3.out.trans (HB4.out.mono HB3.out.size))
            all_goals (try simp only [beq_iff_eq, beq_eq_false_iff_ne, ne_eq] at *)
            all_goals first
              | (go_roundg (5 - j - (p + n))
                 case measure => omega
                 case rel => exact ⟨p + n, 3, rfl, rfl, HIN.out.1, by omega, Lib.hid (.inr ⟨HJK.out.1, by have := HJK.out.2; omega⟩), Lib.hid ((HB4.out.block _ (Array.getElem?_eq_some_iff.1 HI3.out).1).trans HI3.out), HB3.out.trans (HB4.out.mono HB3.out.size) |> Lib.hid⟩)
              | (refine jump_ret ?_
                 go_ret
                 exact ⟨ret_bool HSF.out.symm, HB3.out.trans (HB4.out.mono HB3.out.size)⟩)
        · have HDC := Lib.hid (fun W (h : Tabs W) => (show Calls Tryf.prog 73 #[.string (tl 3)] W fun e w' => e = .returned (.tuple #[.int .i32 108, .int .i64 1]) ∧ Below W.heap.size W w' from dec_tl (k := 3) (l := 108) rfl W h))
          have hsk : (tl 3).size = 2 := tl_size (by omega)
          have hsx : (tl 3).extract 1 2 = tl 4 := tl_ext (k := 3) (j := 1) (by omega)
          by_cases hbig : 128 ≤ c
          · have e1 : ((108 : Int) == (c : Int)) = false := by simp; omega
            have e2 : (108 : Int) < (c : Int) := by omega
            have e3 : (128 : Int) ≤ (c : Int) := by omega
            have HF108 := Lib.hid (fun W (h : Folds W) => (show Calls Tryf.prog 91 #[.int .i32 108] W fun e w' => e = .returned (.int .i32 76) ∧ W = w' from fold_low (c := 108) (d := 76) (by decide) W h))
            have HF76 := Lib.hid (fun W (h : Folds W) => (show Calls Tryf.prog 91 #[.int .i32 76] W fun e w' => e = .returned (.int .i32 108) ∧ W = w' from fold_low (c := 76) (d := 108) (by decide) W h))
            have e6 : (76 : Int) < (c : Int) := by omega
            go_wp2_with (first
              | (go_at_call 73; (with_reducible refine (HDC.out _ HTB.out).mono ?_); rintro e w4 ⟨rfl, hb4⟩; have HB4 := Lib.hid hb4; have HO4 := Lib.hid (HOB.out.below hb4); clear hb4)
              | (go_at_call 91; (with_reducible refine (HF108.out _ HO4.out).mono ?_); rintro e w5 ⟨rfl, rfl⟩))
            have HB5 := Lib.hid (HB3.out.trans (HB4.out.mono HB3.out.size))
            go_loopg [13] 1 (fun g rv wr => Hid (w4 = wr) ∧ ((g = 1 ∧ rv = .int .i32 76) ∨ (g = 0 ∧ rv = .int .i32 108)))
            case atStart => exact ⟨Lib.hid rfl, .inl ⟨rfl, rfl⟩⟩
            case round =>
              obtain ⟨HW, h | h⟩ := hrel
              · obtain ⟨rfl, rfl⟩ := h
                obtain rfl := HW.out
                go_wp2_with (go_at_call 91; (with_reducible refine (HF76.out _ HO4.out).mono ?_); rintro e w5 ⟨rfl, rfl⟩)
                go_roundg 0
                case measure => omega
                case rel => exact ⟨Lib.hid rfl, .inr ⟨rfl, rfl⟩⟩
              · obtain ⟨rfl, rfl⟩ := h
                obtain rfl := HW.out
                go_wp2_with fail
                refine jump_ret ?_
                go_ret
                exact ⟨ret_bool HSF.out.symm, HB5.out⟩
          · have hjk := HIN.out.2.2 (by omega)
            have HJK := Lib.hid hjk
            clear hjk
            go_wp2_with (go_at_call 73; (with_reducible refine (HDC.out _ HTB.out).mono ?_); rintro e w4 ⟨rfl, hb4⟩; have HB4 := Lib.hid hb4; have HO4 := Lib.hid (HOB.out.below hb4); clear hb4)
            have HB5 := Lib.hid (HB3.out.trans (HB4.out.mono HB3.out.size))
            all_goals (try simp only [beq_iff_eq, beq_eq_false_iff_ne, ne_eq] at *)
            all_goals first
              | (go_roundg (5 - j - (p + n))
                 case measure => omega
                 case rel => exact ⟨p + n, 4, rfl, rfl, HIN.out.1, by omega, Lib.hid (.inr ⟨HJK.out.1, by have := HJK.out.2; omega⟩), Lib.hid ((HB4.out.block _ (Array.getElem?_eq_some_iff.1 HI3.out).1).trans HI3.out), HB3.out.trans (HB4.out.mono HB3.out.size) |> Lib.hid⟩)
              | (refine jump_ret ?_
                 go_ret
                 exact ⟨ret_bool HSF.out.symm, HB3.out.trans (HB4.out.mono HB3.out.size)⟩)
        · have HDC := Lib.hid (fun W (h : Tabs W) => (show Calls Tryf.prog 73 #[.string (tl 4)] W fun e w' => e = .returned (.tuple #[.int .i32 101, .int .i64 1]) ∧ Below W.heap.size W w' from dec_tl (k := 4) (l := 101) rfl W h))
          have hsk : (tl 4).size = 1 := tl_size (by omega)
          have hsx : (tl 4).extract 1 1 = tl 5 := tl_ext (k := 4) (j := 1) (by omega)
          by_cases hbig : 128 ≤ c
          · have e1 : ((101 : Int) == (c : Int)) = false := by simp; omega
            have e2 : (101 : Int) < (c : Int) := by omega
            have e3 : (128 : Int) ≤ (c : Int) := by omega
            have HF101 := Lib.hid (fun W (h : Folds W) => (show Calls Tryf.prog 91 #[.int .i32 101] W fun e w' => e = .returned (.int .i32 69) ∧ W = w' from fold_low (c := 101) (d := 69) (by decide) W h))
            have HF69 := Lib.hid (fun W (h : Folds W) => (show Calls Tryf.prog 91 #[.int .i32 69] W fun e w' => e = .returned (.int .i32 101) ∧ W = w' from fold_low (c := 69) (d := 101) (by decide) W h))
            have e6 : (69 : Int) < (c : Int) := by omega
            go_wp2_with (first
              | (go_at_call 73; (with_reducible refine (HDC.out _ HTB.out).mono ?_); rintro e w4 ⟨rfl, hb4⟩; have HB4 := Lib.hid hb4; have HO4 := Lib.hid (HOB.out.below hb4); clear hb4)
              | (go_at_call 91; (with_reducible refine (HF101.out _ HO4.out).mono ?_); rintro e w5 ⟨rfl, rfl⟩))
            have HB5 := Lib.hid (HB3.out.trans (HB4.out.mono HB3.out.size))
            go_loopg [13] 1 (fun g rv wr => Hid (w4 = wr) ∧ ((g = 1 ∧ rv = .int .i32 69) ∨ (g = 0 ∧ rv = .int .i32 101)))
            case atStart => exact ⟨Lib.hid rfl, .inl ⟨rfl, rfl⟩⟩
            case round =>
              obtain ⟨HW, h | h⟩ := hrel
              · obtain ⟨rfl, rfl⟩ := h
                obtain rfl := HW.out
                go_wp2_with (go_at_call 91; (with_reducible refine (HF69.out _ HO4.out).mono ?_); rintro e w5 ⟨rfl, rfl⟩)
                go_roundg 0
                case measure => omega
                case rel => exact ⟨Lib.hid rfl, .inr ⟨rfl, rfl⟩⟩
              · obtain ⟨rfl, rfl⟩ := h
                obtain rfl := HW.out
                go_wp2_with fail
                refine jump_ret ?_
                go_ret
                exact ⟨ret_bool HSF.out.symm, HB5.out⟩
          · exact absurd (HIN.out.2.2 (by omega)) (by omega)
      · have hpe : p = 5 - j := by omega
        subst hpe
        have hend : ¬ (5 - j) < Z.size := by omega
        have hnx := fun ty => Lib.run_next_end_at (P := Tryf.prog) wr w'.heap.size Z (5 - j) ty HI.out hend
        have hsk : (tl k).size = 5 - k := tl_size (by omega)
        obtain ⟨q, hq⟩ : ∃ q, 5 - k = q + 1 := ⟨4 - k, by omega⟩
        rw [hq] at hsk
        go_wp2_with fail
        refine jump_ret ?_
        go_ret
        exact ⟨ret_bool HSF.out.symm, HB.out⟩
end Go.Proofs.YtmomkkakjkkakaaFmt
