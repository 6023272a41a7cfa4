/-
  WHAT A CALL TURNS: a block, the rows of one element type, and what is new; nothing else.
-/
import Derived.Test.YtmomkkakjkkakaaFmtToks
import Derived.Lib.OthersKept
set_option linter.unusedVariables false
set_option linter.unusedSimpArgs false
set_option maxRecDepth 100000
namespace Go.Proofs.YtmomkkakjkkakaaFmt
open Go.RowKit

/-- below block B nothing turns; of the others, rows of T's alone -/
structure Kp (T : TypeId) (B : Nat) (w w' : World) : Prop where
  below : Below B w w'
  kept : Lib.OthersKept T (some B) w w'
theorem Kp.refl (T : TypeId) (B : Nat) (w : World) : Kp T B w w := ⟨Below.refl _ _, Lib.OthersKept.refl _ _ _⟩
theorem Kp.trans {T : TypeId} {B : Nat} {a b c : World} (h : Kp T B a b) (k : Kp T B b c) : Kp T B a c := ⟨h.below.trans k.below, h.kept.trans k.kept⟩
theorem Kp.drew {T : TypeId} {B : Nat} {a w : World} (h : Kp T B a w) : Kp T B a w.drew := ⟨h.below.drew, h.kept.drew⟩
theorem Kp.drewN {T : TypeId} {B : Nat} {a w : World} (h : Kp T B a w) (n : Nat) : Kp T B a (w.drewN n) := ⟨below_drewN h.below n, h.kept⟩
theorem Kp.alloc {T : TypeId} {B : Nat} {a w : World} (h : Kp T B a w) (hB : B ≤ w.heap.size) (o : Obj) : Kp T B a (w.alloc o) := ⟨h.below.alloc hB o, h.kept.alloc o⟩
theorem Kp.put {T : TypeId} {B : Nat} {a w : World} (h : Kp T B a w) (i : Nat) (u : Value) : Kp T B a (w.setCell ⟨B, i, none⟩ u) :=
  ⟨h.below.setCell (Nat.le_refl _) u, h.kept.setCell _ rfl u⟩
theorem Kp.block {T : TypeId} {B : Nat} {w w' : World} (g : w.grownBy w' (some B)) (hB : B ≤ w.heap.size) : Kp T B w w' :=
  ⟨gr_below g (Nat.le_refl _) hB, fun k o hk hb _ => by
    have hlt : k < w.heap.size := (Array.getElem?_eq_some_iff.1 hk).1
    rw [g.block k hlt hb]; exact hk⟩
theorem own_row {w : World} {B : Nat} {e : TypeId} {size n : Nat} {v : Value} {xs : List Value} (h : w.ownsRow B e size v n xs) : ∀ g, v.ownBlock = some g → ∃ c fz, w.heap[g]? = some (.cells c e fz) := by
  intro g hg
  rcases h.2 with ⟨rfl, _⟩ | ⟨g', cap, cur, rfl, _, hgg, _⟩
  · simp [Value.ownBlock] at hg
  · simp [Value.ownBlock] at hg
    subst hg
    exact ⟨cur, (0, 0), hgg⟩
theorem Kp.own {T : TypeId} {B size n : Nat} {v : Value} {xs : List Value} {w w' : World} (h : w.ownsRow (B + 1) T size v n xs) (g : w.grownBy w' v.ownBlock) (hB : B ≤ w.heap.size) : Kp T B w w' :=
  ⟨below_own h g hB, (Lib.OthersKept.refl T (some B) w).grown g (own_row h)⟩
/-- a row of another element type stands as it stood -/
theorem Kp.row {T T' : TypeId} {B size n : Nat} {v : Value} {xs : List Value} {w w' : World} (k : Kp T B w w') (hT : T' ≠ T) (h : w.ownsRow (B + 1) T' size v n xs) : w'.ownsRow (B + 1) T' size v n xs := by
  obtain ⟨hl, h⟩ := h
  refine ⟨hl, ?_⟩
  rcases h with h | ⟨g, cap, cur, hv, hb, hg, rest⟩
  · exact .inl h
  · refine .inr ⟨g, cap, cur, hv, hb, ?_, rest⟩
    exact k.kept g _ hg (fun e => by injection e with e; omega) (fun c fz e => by injection e with _ e2 _; exact hT e2)
end Go.Proofs.YtmomkkakjkkakaaFmt
