import Derived.Test.YtmomkkakjkkakaaFmtWa
set_option linter.unusedVariables false
set_option linter.unusedSimpArgs false
namespace Go.Proofs.YtmomkkakjkkakaaFmt
open Go.RowKit

theorem identifies_any (a b c : Int) (w : World) : Calls Tryf.prog 61 #[.int .i64 a, .int .i64 b, .int .i64 c] w fun e w' => e = .returned (.bool (Pl.idB a b c)) ∧ w = w' := by
  go_enter Tryf.func61, Tryf.ntmps61
  go_wp2_with (first
    | (go_at_call 60; refine (escapes_any _ _ _).mono ?_; rintro e w' ⟨rfl, rfl⟩)
    | (go_at_call 82; refine (Starts_any _ _).mono ?_; rintro e w' ⟨rfl, rfl⟩))
  all_goals go_ret
  all_goals exact ⟨ret_bool (by by_cases hq : a = 45 <;> simp_all [Pl.idB]), rfl⟩

theorem counts_any (a b c : Int) (w : World) : Calls Tryf.prog 62 #[.int .i64 a, .int .i64 b, .int .i64 c] w fun e w' => e = .returned (.bool (Pl.cntB a b c)) ∧ w = w' := by
  go_enter Tryf.func62, Tryf.ntmps62
  go_wp2_with (go_at_call 83; refine (isDigit_any _ _).mono ?_; rintro e w' ⟨rfl, rfl⟩)
  all_goals go_ret
  all_goals exact ⟨ret_bool (by by_cases hq : a = 43 ∨ a = 45 <;> simp_all [Pl.cntB]), rfl⟩

/-! ## bits of an int -/
theorem wraps_i64 (n : Int) (h₀ : 0 ≤ n) (h₁ : n < 2 ^ 62) : IntKind.i64.wrap n = n := by rw [IntKind.wrap_i64]; omega
theorem i64_mask (x : Int) (i : Nat) (hi : i ≤ 62) (h₀ : 0 ≤ x) (h₁ : x < 4611686018427387904) : bits .and .i64 x (2 ^ i - 1) = x % 2 ^ i :=
  bits_mask .i64 62 (by decide) wraps_i64 i hi x h₀ (by simpa using h₁)
theorem i64_and63 (x : Int) (h₀ : 0 ≤ x) (h₁ : x < 4611686018427387904) : bits .and .i64 x 63 = x % 64 := i64_mask x 6 (by decide) h₀ h₁
theorem i64_and31 (x : Int) (h₀ : 0 ≤ x) (h₁ : x < 4611686018427387904) : bits .and .i64 x 31 = x % 32 := i64_mask x 5 (by decide) h₀ h₁
theorem i64_and15 (x : Int) (h₀ : 0 ≤ x) (h₁ : x < 4611686018427387904) : bits .and .i64 x 15 = x % 16 := i64_mask x 4 (by decide) h₀ h₁
theorem i64_and7 (x : Int) (h₀ : 0 ≤ x) (h₁ : x < 4611686018427387904) : bits .and .i64 x 7 = x % 8 := i64_mask x 3 (by decide) h₀ h₁
theorem i64_join (i : Nat) (x y : Int) (hx₀ : 0 ≤ x) (hx : x % 2 ^ i = 0) (hx₁ : x < 4611686018427387904) (h₀ : 0 ≤ y) (h₁ : y < 2 ^ i) (h₂ : y < 4611686018427387904) : bits .or .i64 x y = x + y :=
  bits_join .i64 62 (by decide) wraps_i64 i x y hx₀ hx (by simpa using hx₁) h₀ h₁ (by simpa using h₂)
theorem i64_or128 (y : Int) (h₀ : 0 ≤ y) (h₁ : y < 64) : bits .or .i64 128 y = 128 + y := i64_join 6 128 y (by decide) (by decide) (by decide) h₀ h₁ (by omega)
theorem i64_or192 (y : Int) (h₀ : 0 ≤ y) (h₁ : y < 32) : bits .or .i64 192 y = 192 + y := i64_join 5 192 y (by decide) (by decide) (by decide) h₀ h₁ (by omega)
theorem i64_or224 (y : Int) (h₀ : 0 ≤ y) (h₁ : y < 16) : bits .or .i64 224 y = 224 + y := i64_join 4 224 y (by decide) (by decide) (by decide) h₀ h₁ (by omega)
theorem i64_or240 (y : Int) (h₀ : 0 ≤ y) (h₁ : y < 8) : bits .or .i64 240 y = 240 + y := i64_join 3 240 y (by decide) (by decide) (by decide) h₀ h₁ (by omega)

/-! ## a text out of bytes -/
def S (l : List UInt8) : ByteArray := ⟨l.toArray⟩
theorem S_data (l : List UInt8) : (S l).data.toList = l := by simp [S]
theorem S_size (l : List UInt8) : (S l).size = l.length := by simp [S, ByteArray.size]
theorem S_append (a b : List UInt8) : S a ++ S b = S (a ++ b) := by
  apply ByteArray.ext
  simp [S, ByteArray.data_append]
theorem S_of (s : ByteArray) : S s.data.toList = s := by cases s; simp [S]
theorem S_nums (xs : List Int) (h : ∀ x ∈ xs, 0 ≤ x) : strOfNums xs = S (xs.map fun x => x.toNat.toUInt8) := by
  simp [strOfNums, S, Nat.toUInt8_eq]

set_option maxRecDepth 100000 in
theorem encoded_1 (c : Int) (h : 0 ≤ c) (h2 : c < 128) (w : World) : Calls Tryf.prog 70 #[.int .i64 c] w fun e w' => e = .returned (.string (S (Lib.encodeRune c))) ∧ w.grownBy w' none := by
  have e0 : c < 256 := by omega
  have hc := fun (x : Int) => run_convert_bytes_arg (P := Tryf.prog) (w.alloc (.cells #[.int .u8 x] 5)) 31 5 Tryf.underlying31 Tryf.underlying5 w.heap.size 0 1 1 [x] rfl (by
    intro i hi; match i, hi with | 0, _ => simp) 9 Tryf.underlying9
  go_enter Tryf.func70, Tryf.ntmps70
  go_wp2
  go_ret
  refine ⟨ret_str ?_, World.grownBy_alloc _ _ _⟩
  simp [strOfNums, S, Lib.encodeRune, Lib.encodeRuneZ_one (r := c) (by omega) (by omega)]

set_option maxRecDepth 100000 in
theorem encoded_2 (c : Int) (h : 128 ≤ c) (h2 : c < 2048) (w : World) : Calls Tryf.prog 70 #[.int .i64 c] w fun e w' => e = .returned (.string (S (Lib.encodeRune c))) ∧ w.grownBy w' none := by
  have e1 := i64_or192 (c / 64) (by omega) (by omega)
  have e2 := i64_and63 c (by omega) (by omega)
  have e3 := i64_or128 (c % 64) (by omega) (by omega)
  have hc := fun (x y : Int) => run_convert_bytes_arg (P := Tryf.prog) (w.alloc (.cells #[.int .u8 x, .int .u8 y] 5)) 31 5 Tryf.underlying31 Tryf.underlying5 w.heap.size 0 2 2 [x, y] rfl (by
    intro i hi; match i, hi with | 0, _ => simp | 1, _ => simp) 9 Tryf.underlying9
  go_enter Tryf.func70, Tryf.ntmps70
  go_wp2
  go_ret
  refine ⟨ret_str ?_, World.grownBy_alloc _ _ _⟩
  simp [strOfNums, S, Lib.encodeRune, Lib.encodeRuneZ_two (r := c) (by omega) (by omega)]

set_option maxRecDepth 100000 in
theorem encoded_3 (c : Int) (h : 2048 ≤ c) (h2 : c < 65536) (h3 : c < 55296 ∨ 57343 < c) (w : World) : Calls Tryf.prog 70 #[.int .i64 c] w fun e w' => e = .returned (.string (S (Lib.encodeRune c))) ∧ w.grownBy w' none := by
  have h3' := Lib.hid h3
  clear h3
  have e1 := i64_or224 (c / 4096) (by omega) (by omega)
  have e2 := i64_and63 (c / 64) (by omega) (by omega)
  have e3 := i64_or128 (c / 64 % 64) (by omega) (by omega)
  have e4 := i64_and63 c (by omega) (by omega)
  have e5 := i64_or128 (c % 64) (by omega) (by omega)
  have hc := fun (x y z : Int) => run_convert_bytes_arg (P := Tryf.prog) (w.alloc (.cells #[.int .u8 x, .int .u8 y, .int .u8 z] 5)) 31 5 Tryf.underlying31 Tryf.underlying5 w.heap.size 0 3 3 [x, y, z] rfl (by
    intro i hi; match i, hi with | 0, _ => simp | 1, _ => simp | 2, _ => simp) 9 Tryf.underlying9
  go_enter Tryf.func70, Tryf.ntmps70
  go_wp2
  go_ret
  refine ⟨ret_str ?_, World.grownBy_alloc _ _ _⟩
  simp [strOfNums, S, Lib.encodeRune, Lib.encodeRuneZ_three (r := c) (by have := h3'.out; omega)]

set_option maxRecDepth 100000 in
theorem encoded_4 (c : Int) (h : 65536 ≤ c) (h2 : c ≤ 1114111) (w : World) : Calls Tryf.prog 70 #[.int .i64 c] w fun e w' => e = .returned (.string (S (Lib.encodeRune c))) ∧ w.grownBy w' none := by
  have e1 := i64_or240 (c / 262144) (by omega) (by omega)
  have e2 := i64_and63 (c / 4096) (by omega) (by omega)
  have e3 := i64_or128 (c / 4096 % 64) (by omega) (by omega)
  have e4 := i64_and63 (c / 64) (by omega) (by omega)
  have e5 := i64_or128 (c / 64 % 64) (by omega) (by omega)
  have e6 := i64_and63 c (by omega) (by omega)
  have e7 := i64_or128 (c % 64) (by omega) (by omega)
  have hc := fun (x y z u : Int) => run_convert_bytes_arg (P := Tryf.prog) (w.alloc (.cells #[.int .u8 x, .int .u8 y, .int .u8 z, .int .u8 u] 5)) 31 5 Tryf.underlying31 Tryf.underlying5 w.heap.size 0 4 4 [x, y, z, u] rfl (by
    intro i hi; match i, hi with | 0, _ => simp | 1, _ => simp | 2, _ => simp | 3, _ => simp) 9 Tryf.underlying9
  go_enter Tryf.func70, Tryf.ntmps70
  go_wp2
  go_ret
  refine ⟨ret_str ?_, World.grownBy_alloc _ _ _⟩
  simp [strOfNums, S, Lib.encodeRune, Lib.encodeRuneZ_four (r := c) (by omega) (by omega)]

theorem encoded_any (c : Nat) (h : Pl.Sc c) (w : World) : Calls Tryf.prog 70 #[.int .i64 c] w fun e w' => e = .returned (.string (S (Pl.enc c))) ∧ w.grownBy w' none := by
  unfold Pl.Sc at h
  unfold Pl.enc
  rcases Nat.lt_or_ge c 128 with h1 | h1
  · exact encoded_1 c (by omega) (by omega) w
  rcases Nat.lt_or_ge c 2048 with h2 | h2
  · exact encoded_2 c (by omega) (by omega) w
  rcases Nat.lt_or_ge c 65536 with h3 | h3
  · exact encoded_3 c (by omega) (by omega) (by omega) w
  · exact encoded_4 c (by omega) (by omega) w

end Go.Proofs.YtmomkkakjkkakaaFmt
