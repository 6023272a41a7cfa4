/-
  WALK of printWithEscape: a sign that is not escaped, or by a backslash.
-/
import Derived.Test.YtmomkkakjkkakaaFmtWs
import Derived.Test.YtmomkkakjkkakaaFmtFm
import Derived.Lib.LazyBuf
import Derived.Lib.AppendStr
set_option linter.unusedVariables false
set_option linter.unusedSimpArgs false
set_option maxRecDepth 100000
namespace Go.Proofs.YtmomkkakjkkakaaFmt
open Go.RowKit

theorem infoByte : (Tryf.prog.info? 5).map (fun i => (i.zero, i.size, i.bytes)) = some (some (.int .u8 0), 1, 1) := by kernel_rfl
/-- what a writer of the printer leaves -/
structure PrOut (B : Nat) (ascii : Bool) (w : World) (d : List UInt8) (e : Ending) (w' : World) : Prop where
  ret : e = .returned (.tuple #[])
  pr : ∃ v, Pr w' B ascii v d
  kp : Kp 5 B w w'

theorem setCells_below {B g : Nat} (hg : B ≤ g) : ∀ (vs : List Value) (o : Nat) (w : World), Below B w (w.setCells g o vs)
  | [], _, w => Below.refl B w
  | v :: r, o, w => ((Below.refl B w).setCell (p := ⟨g, o, none⟩) hg v).trans (setCells_below hg r (o + 1) _)
theorem slice_four (a : Addr) (n : Nat) (hn : n ≤ 4) (W : World) : (Instr.sliceAt 119 (.pointer (some a)) none (some (.int .i64 (n : Int))) none).run Tryf.prog W = .ok (.slice (some a) n 4) W := by
  have ht : Tryf.prog.underlying 119 = some (.array (Tryf.prog.arrayLen 119) (Tryf.prog.elem 119)) := by kernel_rfl
  have hl : Tryf.prog.arrayLen 119 = 4 := by kernel_rfl
  have he : Tryf.prog.elem 119 = 5 := by kernel_rfl
  rw [run_sliceAt_array_h W _ a ht .i64 (n : Int) (by omega) (by rw [hl]; omega), he, Tryf.sizeOf5, hl]
  simp [slicedAt, Result.andThen, Addr.add]
theorem runeCells_enc (c : Nat) : Lib.runeCells (c : Int) = Lib.byteCells (Pl.enc c) := (Lib.byteCells_encodeRune _).symm
theorem Pr.kept {w w' : World} {B : Nat} {ascii : Bool} {v : Value} {d : List UInt8} (h : Pr w B ascii v d) (g : w.grownBy w' v.ownBlock) : w'.cell? ⟨B, 15, none⟩ = some v ∧ w'.frozen? ⟨B, 15, none⟩ = false := by
  obtain ⟨⟨cs, hb, h1, _⟩, ho⟩ := h
  have hb' := hb.grown g (own_ne' ho)
  exact ⟨by rw [hb'.cell, h1], hb'.frozen 15⟩
theorem Kp.fresh {T : TypeId} {B : Nat} {w w' : World} (h : Below w.heap.size w w') (hB : B ≤ w.heap.size) : Kp T B w w' :=
  ⟨h.mono hB, fun k o hk _ _ => (h.block k (Array.getElem?_eq_some_iff.1 hk).1).trans hk⟩
/-- a sign's bytes in a block of four -/
structure Tmp4 (w : World) (c : Nat) (w' : World) : Prop where
  below : Below w.heap.size w w'
  cells : ∀ j u, (Lib.byteCells (Pl.enc c))[j]? = some u → w'.cell? ((⟨w.heap.size, 0, none⟩ : Addr).add j) = some u
  lt : w.heap.size < w'.heap.size
theorem encode_tmp {w : World} {c : Nat} (hc : c ≤ 1114111) :
    Calls Tryf.prog 87 #[.slice (some ⟨w.heap.size, 0, none⟩) 4 4, .int .i32 c] (w.alloc (.cells #[.int .u8 0, .int .u8 0, .int .u8 0, .int .u8 0] 119)) fun e w' => e = .returned (.int .i64 (Pl.enc c).length) ∧ Tmp4 w c w' := by
  have hb := Blk.new w 119 #[.int .u8 0, .int .u8 0, .int .u8 0, .int .u8 0]
  have hl : (Lib.runeCells (c : Int)).length = (Pl.enc c).length := by rw [runeCells_enc, Lib.byteCells_length]
  have h4 := enc_len_le c
  have hsome : ∀ j, j < (Lib.runeCells (c : Int)).length → ((w.alloc (.cells #[.int .u8 0, .int .u8 0, .int .u8 0, .int .u8 0] 119)).cell? ⟨w.heap.size, 0 + j, none⟩).isSome = true := by
    intro j hj
    rw [Nat.zero_add, hb.cell]
    have : j < 4 := by omega
    simp [this]
  refine (Tryf.utf8_EncodeRune w.heap.size 0 4 4 (c : Int) (by omega) (by omega) _ (by omega) hsome (fun j _ => hb.frozen _)).mono fun e w' ⟨he, hw⟩ => ?_
  subst hw
  refine ⟨by rw [he, hl], ?_, ?_, ?_⟩
  · exact ((Below.refl _ w).alloc (Nat.le_refl _) _).trans (setCells_below (Nat.le_refl _) _ _ _)
  · intro j u hu
    have e : (⟨w.heap.size, 0, none⟩ : Addr).add j = ⟨w.heap.size, 0 + j, none⟩ := by cases j <;> simp [Addr.add]
    rw [← runeCells_enc] at hu
    obtain ⟨hj, hu⟩ := List.getElem?_eq_some_iff.1 hu
    rw [e, World.cell?_setCells_in _ _ _ _ hsome j hj, hu]
  · have := (setCells_below (B := w.heap.size) (Nat.le_refl w.heap.size) (Lib.runeCells (c : Int)) 0 (w.alloc (.cells #[.int .u8 0, .int .u8 0, .int .u8 0, .int .u8 0] 119))).size
    simp at this; omega
theorem byteCells_one (l : List UInt8) : ∀ u ∈ Lib.byteCells l, u.oneCell' = true := by
  intro u hu
  simp only [Lib.byteCells, List.mem_map] at hu
  obtain ⟨x, _, rfl⟩ := hu
  rfl

set_option maxHeartbeats 2000000 in
theorem pwe_none {w : World} {B : Nat} {ascii : Bool} {v : Value} {d : List UInt8} {c : Nat} {x : ByteArray} {may : Bool} (h : Pr w B ascii v d) (hc : Pl.Ok c) (hd : d.length ≤ 35184372088832) :
    Calls Tryf.prog 69 #[.pointer (some ⟨B, 0, none⟩), .int .i32 c, .int .u8 0, .string x, .bool may] w fun e w' => PrOut B ascii w (d ++ Pl.enc c) e w' := by
  have hc1 : c ≤ 1114111 := by have := hc.1; unfold Pl.Sc at this; omega
  have hl4 := enc_len_le c
  have hl1 := enc_len_pos c
  have HE := Lib.hid (encode_tmp (w := w) hc1)
  have HP := Lib.hid h
  have hBw := h.lt
  obtain ⟨i0, hi, hz0, hz1, hz2⟩ := info_parts infoByte
  clear h hc
  go_enter Tryf.func69, Tryf.ntmps69
  go_wp2_with (go_at_call 87; (with_reducible refine HE.out.mono ?_); rintro e w1 ⟨rfl, ht⟩)
  have hp1 := HP.out.keep ht.below
  have c15 := hp1.css
  have f15 := hp1.free 15
  have hz : w.heap.size < w1.heap.size := ht.lt
  have HOW := Lib.hid (hp1.drew.own : w1.drew.ownsRow (B + 1) 5 1 v d.length (Lib.byteCells d))
  have HT := Lib.hid ht
  have HP1 := Lib.hid hp1
  have HK := Lib.hid (fun (w3 : World) (g : w1.drew.grownBy w3 v.ownBlock) => hp1.drew.kept g)
  clear ht hp1
  have hsl := slice_four ⟨w.heap.size, 0, none⟩ (Pl.enc c).length hl4
  go_region_law (refine step_append_lies _ rfl (.tmp 51) (.tmp 53) 31 rfl (B + 1) 5 i0 _ 1 1 Tryf.underlying31 hi hz0 hz1 hz2 rfl (by decide) v d.length (Lib.byteCells d) (by simp [Act.eval, Act.put]) HOW.out ⟨w.heap.size, 0, none⟩ (Pl.enc c).length 4 (Lib.byteCells (Pl.enc c)) (by simp [Act.eval, Act.put]) (by rw [Lib.byteCells_length, Nat.mul_one]) HT.out.cells (byteCells_one _) (by omega) (by unfold maxLen; omega) (by omega) (by simp; omega) _ rfl ?_; intro g cap w3 hown3 hgrow3 hat3 hlt3; obtain ⟨c3, f3⟩ := HK.out _ hgrow3)
  go_wp2_with fail
  go_end0
  refine ⟨rfl, ⟨_, HP1.out.drew.app hgrow3 hown3 (by simp) (by rw [Lib.byteCells_append])⟩, ?_⟩
  exact (Kp.fresh HT.out.below (Nat.le_of_lt hBw)).drew.trans (HP1.out.drew.kp hgrow3 _)
end Go.Proofs.YtmomkkakjkkakaaFmt
