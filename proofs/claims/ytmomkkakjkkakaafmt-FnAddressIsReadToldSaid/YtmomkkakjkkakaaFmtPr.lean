/-
  THE PRINTER's STATE in memory; walks of its small functions.
-/
import Derived.Test.YtmomkkakjkkakaaFmtKp
import Derived.Test.YtmomkkakjkkakaaFmtLawQ
import Derived.Test.YtmomkkakjkkakaaFmtDecode
import Derived.Test.YtmomkkakjkkakaaFmtPb
import Derived.Deep.AppendLies
import Derived.Deep.RegionLaw
set_option linter.unusedVariables false
set_option linter.unusedSimpArgs false
set_option maxRecDepth 100000
namespace Go.Proofs.YtmomkkakjkkakaaFmt
open Go.RowKit

/-- block B holds the printer: what it has printed, and whether in ASCII -/
structure Pr (w : World) (B : Nat) (ascii : Bool) (v : Value) (d : List UInt8) : Prop where
  blk : ∃ cs, Blk w B 84 cs ∧ cs[15]? = some v ∧ cs[7]? = some (.bool ascii) ∧ cs[3]? = some (.int .i64 0) ∧ cs[5]? = some (.int .u16 0)
  own : w.ownsRow (B + 1) 5 1 v d.length (Lib.byteCells d)
theorem Pr.lt {w : World} {B : Nat} {ascii : Bool} {v : Value} {d : List UInt8} (h : Pr w B ascii v d) : B < w.heap.size := by obtain ⟨cs, hb, _⟩ := h.blk; exact hb.lt
theorem Pr.css {w : World} {B : Nat} {ascii : Bool} {v : Value} {d : List UInt8} (h : Pr w B ascii v d) : w.cell? ⟨B, 15, none⟩ = some v := by obtain ⟨cs, hb, h1, _⟩ := h.blk; rw [hb.cell, h1]
theorem Pr.asc {w : World} {B : Nat} {ascii : Bool} {v : Value} {d : List UInt8} (h : Pr w B ascii v d) : w.cell? ⟨B, 7, none⟩ = some (.bool ascii) := by obtain ⟨cs, hb, _, h1, _⟩ := h.blk; rw [hb.cell, h1]
theorem Pr.lim {w : World} {B : Nat} {ascii : Bool} {v : Value} {d : List UInt8} (h : Pr w B ascii v d) : w.cell? ⟨B, 3, none⟩ = some (.int .i64 0) := by obtain ⟨cs, hb, _, _, h1, _⟩ := h.blk; rw [hb.cell, h1]
theorem Pr.uns {w : World} {B : Nat} {ascii : Bool} {v : Value} {d : List UInt8} (h : Pr w B ascii v d) : w.cell? ⟨B, 5, none⟩ = some (.int .u16 0) := by obtain ⟨cs, hb, _, _, _, h1⟩ := h.blk; rw [hb.cell, h1]
theorem Pr.free {w : World} {B : Nat} {ascii : Bool} {v : Value} {d : List UInt8} (h : Pr w B ascii v d) (i : Nat) : w.frozen? ⟨B, i, none⟩ = false := by obtain ⟨cs, hb, _⟩ := h.blk; exact hb.frozen i
theorem own_below {w w' : World} {B size n : Nat} {T : TypeId} {v : Value} {xs : List Value} (h : w.ownsRow B T size v n xs) (k : Below w.heap.size w w') : w'.ownsRow B T size v n xs := by
  obtain ⟨hl, h⟩ := h
  refine ⟨hl, ?_⟩
  rcases h with h | ⟨g, cap, cur, hv, hb, hg, rest⟩
  · exact .inl h
  · exact .inr ⟨g, cap, cur, hv, hb, (k.block g (Array.getElem?_eq_some_iff.1 hg).1).trans hg, rest⟩
theorem Pr.keep {w w' : World} {B : Nat} {ascii : Bool} {v : Value} {d : List UInt8} (h : Pr w B ascii v d) (k : Below w.heap.size w w') : Pr w' B ascii v d := by
  obtain ⟨⟨cs, hb, rest⟩, ho⟩ := h
  exact ⟨⟨cs, (k.block B hb.lt).trans hb, rest⟩, own_below ho k⟩
theorem Pr.drew {w : World} {B : Nat} {ascii : Bool} {v : Value} {d : List UInt8} (h : Pr w B ascii v d) : Pr w.drew B ascii v d := ⟨h.blk, h.own⟩
theorem Pr.alloc {w : World} {B : Nat} {ascii : Bool} {v : Value} {d : List UInt8} (h : Pr w B ascii v d) (o : Obj) : Pr (w.alloc o) B ascii v d := h.keep ((Below.refl _ w).alloc (Nat.le_refl _) o)
/-- what is appended and stored -/
theorem Pr.app {w w' : World} {B : Nat} {ascii : Bool} {v v' : Value} {d x : List UInt8} {n : Nat} {xs : List Value} (h : Pr w B ascii v d) (hg : w.grownBy w' v.ownBlock) (ho : w'.ownsRow (B + 1) 5 1 v' n xs)
    (hn : n = (d ++ x).length) (hx : xs = Lib.byteCells (d ++ x)) : Pr (w'.setCell ⟨B, 15, none⟩ v') B ascii v' (d ++ x) := by
  obtain ⟨⟨cs, hb, h1, h2, h3, h4⟩, ho0⟩ := h
  have hb' : Blk w' B 84 cs := hb.grown hg (own_ne' ho0)
  subst hn hx
  have hlt : 15 < cs.size := (Array.getElem?_eq_some_iff.1 h1).1
  refine ⟨⟨cs.setIfInBounds 15 v', hb'.put 15 v', ?_, ?_, ?_, ?_⟩, ho.kept (gr_put (gr_refl _ _) 15 v') (own_ne ho)⟩
  · rw [Array.getElem?_setIfInBounds_self_of_lt hlt]
  · rw [Array.getElem?_setIfInBounds_ne (by decide)]; exact h2
  · rw [Array.getElem?_setIfInBounds_ne (by decide)]; exact h3
  · rw [Array.getElem?_setIfInBounds_ne (by decide)]; exact h4
theorem Pr.kp {w w' : World} {B : Nat} {ascii : Bool} {v : Value} {d : List UInt8} (h : Pr w B ascii v d) (hg : w.grownBy w' v.ownBlock) (u : Value) : Kp 5 B w (w'.setCell ⟨B, 15, none⟩ u) :=
  (Kp.own h.own hg (Nat.le_of_lt h.lt)).put 15 u

/-! ## signs of names -/
theorem isStart_any (c : Int) (h0 : 0 < c) (h1 : c ≤ 1114111) (w : World) : Calls Tryf.prog 86 #[.int .i32 c] w fun e w' => e = .returned (.bool (Pl.startsB c)) ∧ w = w' := by
  go_enter Tryf.func86, Tryf.ntmps86
  go_wp2
  all_goals go_ret
  all_goals exact ⟨ret_bool (by (try simp only [beq_iff_eq, beq_eq_false_iff_ne] at *); rw [Bool.eq_iff_iff]; simp [Pl.startsB]; try omega), rfl⟩
theorem isCont_any (c : Int) (h0 : 0 < c) (h1 : c ≤ 1114111) (w : World) : Calls Tryf.prog 67 #[.int .i32 c] w fun e w' => e = .returned (.bool (Pl.contsB c)) ∧ w = w' := by
  go_enter Tryf.func67, Tryf.ntmps67
  go_wp2_with (go_at_call 86; refine (isStart_any _ h0 h1 _).mono ?_; rintro e w' ⟨rfl, rfl⟩)
  all_goals go_ret
  all_goals exact ⟨ret_bool (by (try simp only [beq_iff_eq, beq_eq_false_iff_ne] at *); rw [Bool.eq_iff_iff]; simp_all [Pl.startsB, Pl.contsB]; try omega), rfl⟩
end Go.Proofs.YtmomkkakjkkakaaFmt
