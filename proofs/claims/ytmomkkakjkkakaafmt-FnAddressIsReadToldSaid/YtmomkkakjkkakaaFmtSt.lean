/-
  A builder and a text in hand: contracts of the decoder and of the builder's writers, as decodeEscapesInToken calls them.
-/
import Derived.Test.YtmomkkakjkkakaaFmtDes
set_option linter.unusedVariables false
set_option linter.unusedSimpArgs false
set_option maxRecDepth 100000
namespace Go.Proofs.YtmomkkakjkkakaaFmt
open Go.RowKit

theorem decF_b_nl {g : Nat} (u : List Nat) (h : g = 10 ∨ g = 12) : Pl.decF (92 :: g :: u) = Pl.decF u := by
  have e1 : Pl.pk (92 :: g :: u) 1 = (g : Int) := rfl
  exact Pl.decF_nl (by simp) rfl (by rw [e1]; omega) (by rw [e1]; rcases h with rfl | rfl <;> decide) (by rw [e1]; omega)
theorem decF_b_crlf (u : List Nat) : Pl.decF (92 :: 13 :: 10 :: u) = Pl.decF u := Pl.decF_crlf (by simp) rfl rfl rfl
theorem decF_b_cr0 : Pl.decF [92, 13] = [] := by rw [Pl.decF_cr (by simp) rfl rfl (by decide)]; exact Pl.decF_nil
theorem decF_b_cr {y : Nat} (v : List Nat) (h : y ≠ 10) : Pl.decF (92 :: 13 :: y :: v) = Pl.decF (y :: v) :=
  Pl.decF_cr (by simp) rfl rfl (by show (y : Int) ≠ 10; omega)
theorem decF_b_back {g : Nat} (u : List Nat) (h : Pl.hexv g < 0) (h1 : g ≠ 10) (h2 : g ≠ 12) (h3 : g ≠ 13) : Pl.decF (92 :: g :: u) = g :: Pl.decF u := by
  have e1 : Pl.pk (92 :: g :: u) 1 = (g : Int) := rfl
  rw [Pl.decF_back (by simp) rfl (by rw [e1]; omega) (by rw [e1]; exact h) (by rw [e1]; simp [Pl.isNl]; omega), e1]; rfl
theorem decF_b_hex {g : Nat} (u : List Nat) (h : 0 ≤ Pl.hexv g) :
    Pl.decF (92 :: g :: u) = Pl.fixv (Pl.hexN 5 (Pl.hexv g) u).1 :: (if Pl.isSp (Pl.pk (Pl.hexN 5 (Pl.hexv g) u).2 0) = true then Pl.decF (Pl.hexN 5 (Pl.hexv g) u).2.tail else Pl.decF (Pl.hexN 5 (Pl.hexv g) u).2) := by
  have e1 : Pl.pk (92 :: g :: u) 1 = (g : Int) := rfl
  have e2 : Pl.hexN 6 0 (92 :: g :: u).tail = Pl.hexN 5 (Pl.hexv g) u := by
    show Pl.hexN 6 0 (g :: u) = _
    rw [Pl.hexN, if_pos h, show (0 : Int) * 16 + Pl.hexv g = Pl.hexv g by omega]
  rw [Pl.decF_hex (by simp) rfl (by rw [e1]; exact h), e2]
theorem fixv_bad {a : Int} (h : a = 0 ∨ 1114111 < a ∨ (55296 ≤ a ∧ a < 57344)) : Pl.fixv a = 65533 := by unfold Pl.fixv; rw [if_pos h]
theorem fixv_ok {a : Int} (h : ¬ (a = 0 ∨ 1114111 < a ∨ (55296 ≤ a ∧ a < 57344))) : Pl.fixv a = a.toNat := by unfold Pl.fixv; rw [if_neg h]
/-- how great a number of so many digits is, where n more may come -/
def capN (n : Nat) : Int := 16 ^ (6 - n)
theorem capN_le {n : Nat} (h : n ≤ 5) : capN n ≤ 16777216 := by
  have : n = 0 ∨ n = 1 ∨ n = 2 ∨ n = 3 ∨ n = 4 ∨ n = 5 := by omega
  rcases this with rfl | rfl | rfl | rfl | rfl | rfl <;> decide
theorem capN_step {m : Nat} (h : m + 1 ≤ 5) : capN m = capN (m + 1) * 16 := by
  have : m = 0 ∨ m = 1 ∨ m = 2 ∨ m = 3 ∨ m = 4 := by omega
  rcases this with rfl | rfl | rfl | rfl | rfl <;> decide
theorem hexN_nil (n : Nat) (a : Int) : Pl.hexN n a [] = (a, []) := by cases n <;> rfl
theorem hexN_no {n : Nat} {a : Int} {c : Nat} {v : List Nat} (h : Pl.hexv c < 0) : Pl.hexN n a (c :: v) = (a, c :: v) := by
  cases n with
  | zero => rfl
  | succ n => rw [Pl.hexN, if_neg (by omega)]
theorem hexN_yes {n : Nat} {a : Int} {c : Nat} {v : List Nat} (h : 0 ≤ Pl.hexv c) : Pl.hexN (n + 1) a (c :: v) = Pl.hexN n (a * 16 + Pl.hexv c) v := by
  rw [Pl.hexN, if_pos h]
theorem hexR_yes {c : Int} (h : 0 ≤ Pl.hexv c) : hexR c = Pl.hexv c := by unfold hexR; rw [if_neg (by omega)]
theorem hexv_le (c : Int) : Pl.hexv c ≤ 15 := by unfold Pl.hexv; (repeat' split) <;> omega

/-- a text is the bytes of code points -/
structure Str (x : ByteArray) (r : List Nat) : Prop where
  txt : x.data.toList = Pl.encs r
theorem Str.of (r : List Nat) : Str (S (Pl.encs r)) r := ⟨S_data _⟩
theorem Str.size {x : ByteArray} {r : List Nat} (h : Str x r) : x.size = (Pl.encs r).length := by
  rw [← h.txt, Array.length_toList]; rfl
theorem Str.eq {x : ByteArray} {r : List Nat} (h : Str x r) : x = S (Pl.encs r) := by rw [← h.txt, S_of]
theorem Str.pos {x : ByteArray} {c : Nat} {t : List Nat} (h : Str x (c :: t)) : (Pl.enc c).length ≤ x.size := by
  rw [h.size, Pl.encs_cons, List.length_append]; omega
theorem extract_list (x : ByteArray) (i j : Nat) : (x.extract i j).data.toList = (x.data.toList.drop i).take (j - i) := by
  rw [ByteArray.data_extract, Array.toList_extract, List.extract_eq_take_drop]
theorem Str.tail {x : ByteArray} {c : Nat} {t : List Nat} (h : Str x (c :: t)) : Str (x.extract (Pl.enc c).length x.size) t := by
  refine ⟨?_⟩
  rw [extract_list, h.txt, h.size, Pl.encs_cons, List.drop_left, List.take_of_length_le (by simp)]
theorem Str.pre {x : ByteArray} {a t : List Nat} (h : Str x (a ++ t)) : Str (x.extract 0 (Pl.encs a).length) a := by
  refine ⟨?_⟩
  rw [extract_list, h.txt, Pl.encs_append, List.drop_zero, Nat.sub_zero, List.take_left]
theorem Str.suf {x : ByteArray} {a t : List Nat} (h : Str x (a ++ t)) : Str (x.extract (Pl.encs a).length x.size) t := by
  refine ⟨?_⟩
  rw [extract_list, h.txt, h.size, Pl.encs_append, List.drop_left, List.take_of_length_le (by simp)]
theorem Str.nil {x : ByteArray} (h : Str x []) : x = ⟨#[]⟩ := h.eq
theorem Str.size0 {x : ByteArray} (h : Str x []) : x.size = 0 := by rw [h.size]; rfl

structure St (w0 w : World) (bs : List UInt8) : Prop where
  bld : Lib.IsBuilderF 111 5 w0.heap.size w0.heap.size (Lib.byteCells bs) w
  tabs : Tabs w0
  below : Below w0.heap.size w0 w
theorem St.now {w0 w : World} {bs : List UInt8} (h : St w0 w bs) : Tabs w := h.tabs.below h.below
theorem bld_below {T e B b : Nat} {bs : List Value} {W W' : World} (h : Lib.IsBuilderF T e B b bs W) (hb : Below W.heap.size W W') : Lib.IsBuilderF T e B b bs W' := by
  have key : ∀ p, Lib.BuilderAtF T e B b p bs W → Lib.BuilderAtF T e B b p bs W' := by
    intro p hx
    have hlt := hx.lt
    obtain ⟨hB, v, hh, hown, hne⟩ := hx
    exact ⟨hB, v, (hb.block b hlt).trans hh, hown.kept (row := none) ⟨hb.os, hb.tape, hb.output, hb.size, fun k hk _ => hb.block k hk⟩ (by cases hv : v.ownBlock <;> simp), hne⟩
  exact h.elim (fun x => .inl (key _ x)) (fun x => .inr (key _ x))
theorem St.step {w0 w w' : World} {bs : List UInt8} (h : St w0 w bs) (hb : Below w.heap.size w w') : St w0 w' bs :=
  ⟨bld_below h.bld hb, h.tabs, h.below.trans ⟨hb.os, hb.tape, hb.output, hb.size, fun k hk => hb.block k (Nat.lt_of_lt_of_le hk h.below.size)⟩⟩
theorem St.fresh {w : World} (h : Tabs w) : St w (w.alloc (.cells #[.pointer none, .slice none 0 0] 111)) [] :=
  ⟨.of (Lib.fresh_isBuilder _ _ _), h, (Below.refl _ _).alloc (Nat.le_refl _) _⟩

theorem dec_st {w0 w : World} {bs : List UInt8} {x : ByteArray} {c : Nat} {t : List Nat} (h : St w0 w bs) (hx : Str x (c :: t)) (hc : Pl.Sc c) :
    Calls Tryf.prog 73 #[.string x] w fun e w' => e = .returned (.tuple #[.int .i32 c, .int .i64 (Pl.enc c).length]) ∧ St w0 w' bs := by
  rw [hx.eq]
  exact (decode_cons c t w hc h.now).mono fun e w' ⟨a, b⟩ => ⟨a, h.step b⟩
theorem dec0_st {w0 w : World} {bs : List UInt8} {x : ByteArray} (h : St w0 w bs) (hx : Str x []) :
    Calls Tryf.prog 73 #[.string x] w fun e w' => e = .returned (.tuple #[.int .i32 65533, .int .i64 0]) ∧ St w0 w' bs := by
  rw [hx.nil]
  exact (decode_nil w h.now).mono fun e w' ⟨a, b⟩ => ⟨a, h.step b⟩
theorem rune_st {w0 w : World} {d : List Nat} {c : Int} (h : St w0 w (Pl.encs d)) (h0 : 0 ≤ c) (h1 : c ≤ 1114111) (hl : (Pl.encs d).length ≤ 70368744177664) :
    Calls Tryf.prog 77 #[.pointer (some ⟨w0.heap.size, 0, none⟩), .int .i32 c] w fun e w' => (∃ v, e = .returned v) ∧ St w0 w' (Pl.encs (d ++ [c.toNat])) := by
  refine (Tryf.wRune w0.heap.size w0.heap.size _ c (by omega) (by omega) w h.bld (by rw [Lib.byteCells_length]; omega) h.below.size).mono ?_
  rintro e w' ⟨rfl, hb, hbl, _⟩
  refine ⟨⟨_, rfl⟩, .inr ?_, h.tabs, h.below.trans hbl⟩
  have e : Pl.encs [c.toNat] = Lib.encodeRune c := by rw [Pl.encs_cons, Pl.encs_nil, List.append_nil]; unfold Pl.enc; rw [show ((c.toNat : Nat) : Int) = c by omega]
  rw [Pl.encs_append, Lib.byteCells_append, e, Lib.byteCells_encodeRune]
  exact hb
theorem str_st {w0 w : World} {bs : List UInt8} {x : ByteArray} {a : List Nat} (h : St w0 w bs) (hx : Str x a) (hl : bs.length + x.size ≤ 70368744177664) :
    Calls Tryf.prog 76 #[.pointer (some ⟨w0.heap.size, 0, none⟩), .string x] w fun e w' => (∃ v, e = .returned v) ∧ St w0 w' (bs ++ Pl.encs a) := by
  refine (Tryf.wString w0.heap.size w0.heap.size _ x w h.bld (by rw [Lib.byteCells_length]; omega) h.below.size).mono ?_
  rintro e w' ⟨rfl, hb, hbl, _⟩
  refine ⟨⟨_, rfl⟩, .inr ?_, h.tabs, h.below.trans hbl⟩
  rw [Lib.byteCells_append, ← hx.txt, ← Lib.strCells_eq]
  exact hb
theorem out_st {w0 w : World} {bs : List UInt8} (h : St w0 w bs) :
    Calls Tryf.prog 80 #[.pointer (some ⟨w0.heap.size, 0, none⟩)] w fun e w' => e = .returned (.string (S bs)) ∧ Below w0.heap.size w0 w' := by
  refine (Tryf.Builder_String_any_k w0.heap.size w0.heap.size bs w h.bld h.below.size).mono ?_
  rintro e w' ⟨rfl, hb, hbl, _⟩
  exact ⟨rfl, h.below.trans hbl⟩
end Go.Proofs.YtmomkkakjkkakaaFmt
