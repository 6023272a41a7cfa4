/-
  WALK of the reader's runeAt: every text, every place.
-/
import Derived.Test.YtmomkkakjkkakaaFmtWb
set_option linter.unusedVariables false
set_option linter.unusedSimpArgs false
set_option maxRecDepth 100000
namespace Go.Proofs.YtmomkkakjkkakaaFmt
open Go.RowKit

theorem runeAt_end (s : ByteArray) (k : Nat) (w : World) (h : s.size ≤ k) (hs : s.size ≤ 1099511627776) (hk : k ≤ 1099511627776) :
    Calls Tryf.prog 35 #[.string s, .int .i64 k] w fun e w' => e = .returned (.tuple #[.int .i64 (-1), .int .i64 0]) ∧ w = w' := by
  go_enter Tryf.func35, Tryf.ntmps35
  go_wp2
  go_ret2
  exact ⟨rfl, rfl⟩

theorem runeAt_ascii (s : ByteArray) (k : Nat) (w : World) (h : k < s.size) (hs : s.size ≤ 1099511627776) (hb : (s[k].toNat : Int) < 128) :
    Calls Tryf.prog 35 #[.string s, .int .i64 k] w fun e w' => e = .returned (.tuple #[.int .i64 (s[k].toNat : Int), .int .i64 1]) ∧ w = w' := by
  go_enter Tryf.func35, Tryf.ntmps35
  go_wp2
  go_ret2
  exact ⟨rfl, rfl⟩

theorem runeAt_bad (s : ByteArray) (k : Nat) (w : World) (h : k < s.size) (hs : s.size ≤ 1099511627776) (hb : 128 ≤ (s[k].toNat : Int)) (hb2 : (s[k].toNat : Int) < 194 ∨ 245 ≤ (s[k].toNat : Int)) :
    Calls Tryf.prog 35 #[.string s, .int .i64 k] w fun e w' => e = .returned (.tuple #[.int .i64 (-2), .int .i64 1]) ∧ w = w' := by
  have hb3 : (s[k].toNat : Int) < 256 := by have := UInt8.toNat_lt s[k]; omega
  rcases hb2 with hb2 | hb2
  all_goals
    go_enter Tryf.func35, Tryf.ntmps35
    go_wp2
    go_ret2
    exact ⟨rfl, rfl⟩

/-- a byte of a text, as a number; 0 behind its end -/
def bt (s : ByteArray) (j : Nat) : Nat := (s.data.toList.getD j 0).toNat
theorem bt_eq {s : ByteArray} {j : Nat} (h : j < s.size) : (s[j].toNat : Int) = bt s j := by
  unfold bt
  have h' : j < s.data.toList.length := by rw [Array.length_toList]; exact h
  rw [List.getD_eq_getElem?_getD, List.getElem?_eq_getElem h']
  rfl
theorem bt_lt (s : ByteArray) (j : Nat) : bt s j < 256 := by unfold bt; exact UInt8.toNat_lt _
def contB (s : ByteArray) (j : Nat) : Bool := decide (j < s.size ∧ bt s j / 64 = 2)
def accF (s : ByteArray) (k : Nat) (b : Int) : Nat → Int
  | 0 => b
  | 1 => b
  | i + 2 => accF s k b (i + 1) * 64 + (bt s (k + (i + 1)) : Int) % 64
theorem accF_step (s : ByteArray) (k : Nat) (b : Int) (i : Nat) (h : 1 ≤ i) : accF s k b (i + 1) = accF s k b i * 64 + (bt s (k + i) : Int) % 64 := by
  cases i with
  | zero => omega
  | succ i => rfl
theorem accF_bd (s : ByteArray) (k : Nat) (b : Int) (h0 : 0 ≤ b) (h1 : b < 32) : ∀ i, 1 ≤ i → i ≤ 4 → 0 ≤ accF s k b i ∧ accF s k b i < 8388608 := by
  have a1 : accF s k b 1 = b := rfl
  have a2 : accF s k b 2 = accF s k b 1 * 64 + (bt s (k + 1) : Int) % 64 := rfl
  have a3 : accF s k b 3 = accF s k b 2 * 64 + (bt s (k + 2) : Int) % 64 := rfl
  have a4 : accF s k b 4 = accF s k b 3 * 64 + (bt s (k + 3) : Int) % 64 := rfl
  intro i h1 h4
  have : i = 1 ∨ i = 2 ∨ i = 3 ∨ i = 4 := by omega
  rcases this with rfl | rfl | rfl | rfl <;> omega
/-- what the loop and the tests behind it give -/
def finF (s : ByteArray) (k n : Nat) (low b : Int) : Int × Int :=
  if ((List.range (n - 1)).all fun x => contB s (k + (x + 1))) = true then
    (if accF s k b n < low ∨ 1114111 < accF s k b n ∨ (55296 ≤ accF s k b n ∧ accF s k b n < 57344) then (-2, 1) else (accF s k b n, n))
  else (-2, 1)
theorem finF_not {s : ByteArray} {k n j : Nat} {low b : Int} (h1 : 1 ≤ j) (h2 : j < n) (h : contB s (k + j) = false) : finF s k n low b = (-2, 1) := by
  unfold finF
  rw [if_neg]
  intro hall
  have := List.all_eq_true.1 hall (j - 1) (by simp; omega)
  rw [show j - 1 + 1 = j by omega, h] at this
  cases this
theorem finF_yes {s : ByteArray} {k n : Nat} {low b : Int} (h : ∀ x, 1 ≤ x → x < n → contB s (k + x) = true) :
    finF s k n low b = if accF s k b n < low ∨ 1114111 < accF s k b n ∨ (55296 ≤ accF s k b n ∧ accF s k b n < 57344) then (-2, 1) else (accF s k b n, (n : Int)) := by
  unfold finF
  rw [if_pos]
  rw [List.all_eq_true]
  intro x hx
  exact h (x + 1) (by omega) (by simp at hx; omega)
theorem ret_two {a b c d : Int} (h : (a, b) = (c, d)) : Ending.returned (.tuple #[.int .i64 a, .int .i64 b]) = Ending.returned (.tuple #[.int .i64 c, .int .i64 d]) := by cases h; rfl

theorem u8_and192 (a : Nat) (h : a < 256) : bits .and .u8 (a : Int) 192 = ((a / 64 * 64 : Nat) : Int) := by
  have e := u8_and_nat a 192 h (by decide)
  rw [show ((192 : Int)) = ((192 : Nat) : Int) from rfl, e]
  have : ∀ x, x < 256 → x &&& 192 = x / 64 * 64 := by decide
  rw [this a h]

set_option maxHeartbeats 1000000 in
theorem runeAt_two (s : ByteArray) (k : Nat) (w : World) (h : k < s.size) (hs : s.size ≤ 1099511627776) (hb : 194 ≤ (s[k].toNat : Int)) (hb2 : (s[k].toNat : Int) < 224) :
    Calls Tryf.prog 35 #[.string s, .int .i64 k] w fun e w' => e = .returned (.tuple #[.int .i64 (finF s k 2 128 ((bt s k : Int) % 32)).1, .int .i64 (finF s k 2 128 ((bt s k : Int) % 32)).2]) ∧ w = w' := by
  have hbe := bt_eq h
  rw [← hbe]
  obtain ⟨B, hB⟩ : ∃ B : Int, B = (s[k].toNat : Int) % 32 := ⟨_, rfl⟩
  have hB0 : 0 ≤ B := by omega
  have hB1 : B < 32 := by omega
  have HB := Lib.hid hB
  rw [← hB]
  have e1 := i64_and31 (s[k].toNat : Int) (by omega) (by omega)
  rw [← hB] at e1
  clear hB hbe
  have hsz : decide (s.size ≤ k) = false := by simp; omega
  have h194 : (194 : Int) ≤ (s[k].toNat : Int) := by omega
  have h128 : decide ((s[k].toNat : Int) < 128) = false := by simp; omega
  have hacc := accF_bd s k B hB0 hB1
  have HA := Lib.hid hacc
  clear hacc
  go_enter Tryf.func35, Tryf.ntmps35
  go_wp2
  clear e1
  go_loop [6, 9] (fun b i => ∃ j : Nat, 1 ≤ j ∧ j ≤ 2 ∧ i = .int .i64 j ∧ b = .int .i64 (accF s k B j) ∧ Hid (∀ x, 1 ≤ x → x < j → contB s (k + x) = true)) (fun _ i => 2 - (intOf i).toNat)
  case atStart => exact ⟨1, by omega, by omega, rfl, rfl, Lib.hid (fun x h1 h2 => by omega)⟩
  case round =>
    obtain ⟨j, hj1, hj2, rfl, rfl, hall⟩ := hrel
    obtain ⟨ha0, ha1⟩ := HA.out j hj1 (by omega)
    by_cases hlt : j < 2
    · have hltI : (j : Int) < 2 := by omega
      by_cases hc : contB s (k + j) = true
      · have hc' := hc
        simp only [contB, decide_eq_true_eq] at hc'
        obtain ⟨hc1, hc2⟩ := hc'
        have hbj := bt_eq hc1
        have hltb := bt_lt s (k + j)
        have e2 : bits .and .u8 (s[k + j].toNat : Int) 192 = 128 := by
          rw [hbj, u8_and192 _ hltb]; omega
        have e3 : bits .and .u8 (s[k + j].toNat : Int) 63 = (bt s (k + j) : Int) % 64 := by
          rw [hbj]; exact u8_and63 _ (by omega) (by omega)
        have e4 : bits .or .i64 (accF s k B j * 64) ((bt s (k + j) : Int) % 64) = accF s k B j * 64 + (bt s (k + j) : Int) % 64 :=
          i64_join 6 _ _ (by omega) (by omega) (by omega) (by omega) (by omega) (by omega)
        have HS := Lib.hid (accF_step s k B j hj1)
        have HC := Lib.hid hc
        clear hbj hc hc2
        go_wp2
        all_goals
          go_round
          case rel => exact ⟨j + 1, by omega, by omega, by go_num, by rw [HS.out], Lib.hid (fun x h1 h2 => by
            rcases Nat.lt_or_ge x j with h | h
            · exact hall.out x h1 h
            · obtain rfl : x = j := by omega
              exact HC.out)⟩
          case measure => simp [intOf]; omega
      · have hc' : contB s (k + j) = false := by simpa using hc
        have HF := Lib.hid (finF_not (low := 128) (b := B) hj1 hlt hc')
        by_cases hin : k + j < s.size
        · have hbj := bt_eq hin
          have hltb := bt_lt s (k + j)
          have e2 : (bits .and .u8 (s[k + j].toNat : Int) 192 != 128) = true := by
            rw [hbj, u8_and192 _ hltb]
            simp only [contB, decide_eq_true_eq] at hc
            simp only [bne_iff_ne]
            omega
          clear hc hc' hbj
          go_wp2
          go_ret2
          exact ⟨ret_two (by rw [HF.out]), rfl⟩
        · clear hc hc'
          go_wp2
          go_ret2
          exact ⟨ret_two (by rw [HF.out]), rfl⟩
    · obtain rfl : j = 2 := by omega
      have HF := Lib.hid (finF_yes (low := 128) (b := B) hall.out)
      by_cases hv : accF s k B 2 < 128 ∨ 1114111 < accF s k B 2 ∨ (55296 ≤ accF s k B 2 ∧ accF s k B 2 < 57344)
      · have HV := Lib.hid hv
        rcases hv with hv | hv | ⟨hv, hv'⟩
        · go_wp2
          all_goals go_ret2
          all_goals exact ⟨ret_two (by rw [HF.out, if_pos HV.out]), rfl⟩
        · go_wp2
          all_goals go_ret2
          all_goals exact ⟨ret_two (by rw [HF.out, if_pos HV.out]), rfl⟩
        · go_wp2
          all_goals go_ret2
          all_goals exact ⟨ret_two (by rw [HF.out, if_pos HV.out]), rfl⟩
      · have HV := Lib.hid hv
        have hv1 : 128 ≤ accF s k B 2 := by omega
        have hv2 : accF s k B 2 ≤ 1114111 := by omega
        have hv3 : accF s k B 2 < 55296 ∨ 57344 ≤ accF s k B 2 := by omega
        clear hv
        rcases hv3 with hv3 | hv3
        all_goals
          go_wp2
          all_goals go_ret2
          all_goals exact ⟨ret_two (by rw [HF.out, if_neg HV.out]; rfl), rfl⟩

set_option maxHeartbeats 1000000 in
theorem runeAt_three (s : ByteArray) (k : Nat) (w : World) (h : k < s.size) (hs : s.size ≤ 1099511627776) (hb : 224 ≤ (s[k].toNat : Int)) (hb2 : (s[k].toNat : Int) < 240) :
    Calls Tryf.prog 35 #[.string s, .int .i64 k] w fun e w' => e = .returned (.tuple #[.int .i64 (finF s k 3 2048 ((bt s k : Int) % 16)).1, .int .i64 (finF s k 3 2048 ((bt s k : Int) % 16)).2]) ∧ w = w' := by
  have hbe := bt_eq h
  rw [← hbe]
  obtain ⟨B, hB⟩ : ∃ B : Int, B = (s[k].toNat : Int) % 16 := ⟨_, rfl⟩
  have hB0 : 0 ≤ B := by omega
  have hB1 : B < 32 := by omega
  have HB := Lib.hid hB
  rw [← hB]
  have e1 := i64_and15 (s[k].toNat : Int) (by omega) (by omega)
  rw [← hB] at e1
  clear hB hbe
  have hsz : decide (s.size ≤ k) = false := by simp; omega
  have h194 : (194 : Int) ≤ (s[k].toNat : Int) := by omega
  have hd224 : decide ((s[k].toNat : Int) < 224) = false := by simp; omega
  have h128 : decide ((s[k].toNat : Int) < 128) = false := by simp; omega
  have hacc := accF_bd s k B hB0 hB1
  have HA := Lib.hid hacc
  clear hacc
  go_enter Tryf.func35, Tryf.ntmps35
  go_wp2
  clear e1
  go_loop [6, 9] (fun b i => ∃ j : Nat, 1 ≤ j ∧ j ≤ 3 ∧ i = .int .i64 j ∧ b = .int .i64 (accF s k B j) ∧ Hid (∀ x, 1 ≤ x → x < j → contB s (k + x) = true)) (fun _ i => 3 - (intOf i).toNat)
  case atStart => exact ⟨1, by omega, by omega, rfl, rfl, Lib.hid (fun x h1 h2 => by omega)⟩
  case round =>
    obtain ⟨j, hj1, hj2, rfl, rfl, hall⟩ := hrel
    obtain ⟨ha0, ha1⟩ := HA.out j hj1 (by omega)
    by_cases hlt : j < 3
    · have hltI : (j : Int) < 3 := by omega
      by_cases hc : contB s (k + j) = true
      · have hc' := hc
        simp only [contB, decide_eq_true_eq] at hc'
        obtain ⟨hc1, hc2⟩ := hc'
        have hbj := bt_eq hc1
        have hltb := bt_lt s (k + j)
        have e2 : bits .and .u8 (s[k + j].toNat : Int) 192 = 128 := by
          rw [hbj, u8_and192 _ hltb]; omega
        have e3 : bits .and .u8 (s[k + j].toNat : Int) 63 = (bt s (k + j) : Int) % 64 := by
          rw [hbj]; exact u8_and63 _ (by omega) (by omega)
        have e4 : bits .or .i64 (accF s k B j * 64) ((bt s (k + j) : Int) % 64) = accF s k B j * 64 + (bt s (k + j) : Int) % 64 :=
          i64_join 6 _ _ (by omega) (by omega) (by omega) (by omega) (by omega) (by omega)
        have HS := Lib.hid (accF_step s k B j hj1)
        have HC := Lib.hid hc
        clear hbj hc hc2
        go_wp2
        all_goals
          go_round
          case rel => exact ⟨j + 1, by omega, by omega, by go_num, by rw [HS.out], Lib.hid (fun x h1 h2 => by
            rcases Nat.lt_or_ge x j with h | h
            · exact hall.out x h1 h
            · obtain rfl : x = j := by omega
              exact HC.out)⟩
          case measure => simp [intOf]; omega
      · have hc' : contB s (k + j) = false := by simpa using hc
        have HF := Lib.hid (finF_not (low := 2048) (b := B) hj1 hlt hc')
        by_cases hin : k + j < s.size
        · have hbj := bt_eq hin
          have hltb := bt_lt s (k + j)
          have e2 : (bits .and .u8 (s[k + j].toNat : Int) 192 != 128) = true := by
            rw [hbj, u8_and192 _ hltb]
            simp only [contB, decide_eq_true_eq] at hc
            simp only [bne_iff_ne]
            omega
          clear hc hc' hbj
          go_wp2
          go_ret2
          exact ⟨ret_two (by rw [HF.out]), rfl⟩
        · clear hc hc'
          go_wp2
          go_ret2
          exact ⟨ret_two (by rw [HF.out]), rfl⟩
    · obtain rfl : j = 3 := by omega
      have HF := Lib.hid (finF_yes (low := 2048) (b := B) hall.out)
      by_cases hv : accF s k B 3 < 2048 ∨ 1114111 < accF s k B 3 ∨ (55296 ≤ accF s k B 3 ∧ accF s k B 3 < 57344)
      · have HV := Lib.hid hv
        rcases hv with hv | hv | ⟨hv, hv'⟩
        · go_wp2
          all_goals go_ret2
          all_goals exact ⟨ret_two (by rw [HF.out, if_pos HV.out]), rfl⟩
        · go_wp2
          all_goals go_ret2
          all_goals exact ⟨ret_two (by rw [HF.out, if_pos HV.out]), rfl⟩
        · go_wp2
          all_goals go_ret2
          all_goals exact ⟨ret_two (by rw [HF.out, if_pos HV.out]), rfl⟩
      · have HV := Lib.hid hv
        have hv1 : 2048 ≤ accF s k B 3 := by omega
        have hv2 : accF s k B 3 ≤ 1114111 := by omega
        have hv3 : accF s k B 3 < 55296 ∨ 57344 ≤ accF s k B 3 := by omega
        clear hv
        rcases hv3 with hv3 | hv3
        all_goals
          go_wp2
          all_goals go_ret2
          all_goals exact ⟨ret_two (by rw [HF.out, if_neg HV.out]; rfl), rfl⟩

set_option maxHeartbeats 1000000 in
theorem runeAt_four (s : ByteArray) (k : Nat) (w : World) (h : k < s.size) (hs : s.size ≤ 1099511627776) (hb : 240 ≤ (s[k].toNat : Int)) (hb2 : (s[k].toNat : Int) < 245) :
    Calls Tryf.prog 35 #[.string s, .int .i64 k] w fun e w' => e = .returned (.tuple #[.int .i64 (finF s k 4 65536 ((bt s k : Int) % 8)).1, .int .i64 (finF s k 4 65536 ((bt s k : Int) % 8)).2]) ∧ w = w' := by
  have hbe := bt_eq h
  rw [← hbe]
  obtain ⟨B, hB⟩ : ∃ B : Int, B = (s[k].toNat : Int) % 8 := ⟨_, rfl⟩
  have hB0 : 0 ≤ B := by omega
  have hB1 : B < 32 := by omega
  have HB := Lib.hid hB
  rw [← hB]
  have e1 := i64_and7 (s[k].toNat : Int) (by omega) (by omega)
  rw [← hB] at e1
  clear hB hbe
  have hsz : decide (s.size ≤ k) = false := by simp; omega
  have h194 : (194 : Int) ≤ (s[k].toNat : Int) := by omega
  have h224 : (224 : Int) ≤ (s[k].toNat : Int) := by omega
  have hd224 : decide ((s[k].toNat : Int) < 224) = false := by simp; omega
  have hd240 : decide ((s[k].toNat : Int) < 240) = false := by simp; omega
  have h128 : decide ((s[k].toNat : Int) < 128) = false := by simp; omega
  have hacc := accF_bd s k B hB0 hB1
  have HA := Lib.hid hacc
  clear hacc
  go_enter Tryf.func35, Tryf.ntmps35
  go_wp2
  clear e1
  go_loop [6, 9] (fun b i => ∃ j : Nat, 1 ≤ j ∧ j ≤ 4 ∧ i = .int .i64 j ∧ b = .int .i64 (accF s k B j) ∧ Hid (∀ x, 1 ≤ x → x < j → contB s (k + x) = true)) (fun _ i => 4 - (intOf i).toNat)
  case atStart => exact ⟨1, by omega, by omega, rfl, rfl, Lib.hid (fun x h1 h2 => by omega)⟩
  case round =>
    obtain ⟨j, hj1, hj2, rfl, rfl, hall⟩ := hrel
    obtain ⟨ha0, ha1⟩ := HA.out j hj1 (by omega)
    by_cases hlt : j < 4
    · have hltI : (j : Int) < 4 := by omega
      by_cases hc : contB s (k + j) = true
      · have hc' := hc
        simp only [contB, decide_eq_true_eq] at hc'
        obtain ⟨hc1, hc2⟩ := hc'
        have hbj := bt_eq hc1
        have hltb := bt_lt s (k + j)
        have e2 : bits .and .u8 (s[k + j].toNat : Int) 192 = 128 := by
          rw [hbj, u8_and192 _ hltb]; omega
        have e3 : bits .and .u8 (s[k + j].toNat : Int) 63 = (bt s (k + j) : Int) % 64 := by
          rw [hbj]; exact u8_and63 _ (by omega) (by omega)
        have e4 : bits .or .i64 (accF s k B j * 64) ((bt s (k + j) : Int) % 64) = accF s k B j * 64 + (bt s (k + j) : Int) % 64 :=
          i64_join 6 _ _ (by omega) (by omega) (by omega) (by omega) (by omega) (by omega)
        have HS := Lib.hid (accF_step s k B j hj1)
        have HC := Lib.hid hc
        clear hbj hc hc2
        go_wp2
        all_goals
          go_round
          case rel => exact ⟨j + 1, by omega, by omega, by go_num, by rw [HS.out], Lib.hid (fun x h1 h2 => by
            rcases Nat.lt_or_ge x j with h | h
            · exact hall.out x h1 h
            · obtain rfl : x = j := by omega
              exact HC.out)⟩
          case measure => simp [intOf]; omega
      · have hc' : contB s (k + j) = false := by simpa using hc
        have HF := Lib.hid (finF_not (low := 65536) (b := B) hj1 hlt hc')
        by_cases hin : k + j < s.size
        · have hbj := bt_eq hin
          have hltb := bt_lt s (k + j)
          have e2 : (bits .and .u8 (s[k + j].toNat : Int) 192 != 128) = true := by
            rw [hbj, u8_and192 _ hltb]
            simp only [contB, decide_eq_true_eq] at hc
            simp only [bne_iff_ne]
            omega
          clear hc hc' hbj
          go_wp2
          go_ret2
          exact ⟨ret_two (by rw [HF.out]), rfl⟩
        · clear hc hc'
          go_wp2
          go_ret2
          exact ⟨ret_two (by rw [HF.out]), rfl⟩
    · obtain rfl : j = 4 := by omega
      have HF := Lib.hid (finF_yes (low := 65536) (b := B) hall.out)
      by_cases hv : accF s k B 4 < 65536 ∨ 1114111 < accF s k B 4 ∨ (55296 ≤ accF s k B 4 ∧ accF s k B 4 < 57344)
      · have HV := Lib.hid hv
        rcases hv with hv | hv | ⟨hv, hv'⟩
        · go_wp2
          all_goals go_ret2
          all_goals exact ⟨ret_two (by rw [HF.out, if_pos HV.out]), rfl⟩
        · go_wp2
          all_goals go_ret2
          all_goals exact ⟨ret_two (by rw [HF.out, if_pos HV.out]), rfl⟩
        · go_wp2
          all_goals go_ret2
          all_goals exact ⟨ret_two (by rw [HF.out, if_pos HV.out]), rfl⟩
      · have HV := Lib.hid hv
        have hv1 : 65536 ≤ accF s k B 4 := by omega
        have hv2 : accF s k B 4 ≤ 1114111 := by omega
        have hv3 : accF s k B 4 < 55296 ∨ 57344 ≤ accF s k B 4 := by omega
        clear hv
        rcases hv3 with hv3 | hv3
        all_goals
          go_wp2
          all_goals go_ret2
          all_goals exact ⟨ret_two (by rw [HF.out, if_neg HV.out]; rfl), rfl⟩

end Go.Proofs.YtmomkkakjkkakaaFmt
