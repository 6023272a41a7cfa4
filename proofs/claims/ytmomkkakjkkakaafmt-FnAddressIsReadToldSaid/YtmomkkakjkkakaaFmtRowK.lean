/-
  ROWS: a function that returns true and turns nothing that was there: what its row asks of the world behind the call.
-/
import Derived.Test.YtmomkkakjkkakaaFmtProg
import Derived.WalkKit
import Derived.ProofKit
import Derived.OpenShut
import Derived.Carry
set_option linter.unusedVariables false
set_option linter.unusedSimpArgs false
set_option maxRecDepth 100000
namespace Go.Proofs.YtmomkkakjkkakaaFmt
open Go.ChangeShapes Go.WideShapes Go.ChangeAt Go.RowKit

theorem trodAll_stays {H : Type} {enc : TypeId × Value → H} {P : Program} (hl : laidOutB P = true) {W W' : World} (hb : Below W.heap.size W W') :
    ∀ (ts : List TypeId) {vs : List Value} {ds : List (DataW H)} {ps : List MemPlace}, (∀ t ∈ ts, P.readableRec t = true ∧ t < P.types.size) → (∀ x ∈ ps, x.block < W.heap.size) →
      DataW.TrodAll enc P W 0 (fun _ => true) true ts vs ds ps → DataW.TrodAll enc P W' 0 (fun b => decide (b < W.heap.size)) true ts vs ds ps
  | [], vs, ds, ps, _, _, h => by
    obtain ⟨rfl, rfl, rfl⟩ := trodAll_nil h
    exact trodAll_mk0
  | t :: ts, vs, ds, ps, ht, hp, h => by
    obtain ⟨v, vs', d, ds', p, q, rfl, rfl, rfl, h0, h1⟩ := trodAll_cons h
    obtain ⟨h2, h3⟩ := ht t (by simp)
    exact trodAll_cons_mk (Below.trod hl h2 h3 h0 hb (fun x hx => hp x (by simp [hx]))) (trodAll_stays hl hb ts (fun x hx => ht x (by simp [hx])) (fun x hx => hp x (by simp [hx])) h1)

theorem post_true {H : Type} {enc : TypeId × Value → H} {P : Program} (hl : laidOutB P = true) {f : Func} {s : ChangeSpec} {W W' : World} {args : Array Value} {ds gs : List (DataW H)} {before p q : List MemPlace} {tb : TypeId}
    (hW : DataW.Whole enc P f.params.toList s.vars false W args.toList ds gs before) (hA : DataW.TrodAll enc P W 0 (fun _ => true) true f.params.toList args.toList ds before)
    (hts : ∀ t ∈ f.params.toList, P.readableRec t = true ∧ t < P.types.size) (hb : Below W.heap.size W W')
    (hv : s.vars = []) (hfn : s.fn H (ds ++ gs) = { results := [.lit (.bool true)], args := ds })
    (hr : f.resultTypes = #[tb]) (hu : P.underlying tb = some .bool) :
    s.post enc P f false true false false W args (.bool true) W' := by
  have hlt : ∀ p ∈ before, p.block < W.heap.size := fun p hp => hW.lt p hp
  refine ⟨ds, gs, before, [], before, [], hW, ?_, ?_, ?_, World.keptBut_mono (fun p hp => ⟨hp, ?_⟩) (hb.frame (· ∈ before)), fun h => by cases h⟩
  · rw [hfn, hr]
    exact trodAll_cons_mk (shut_bool hu true) trodAll_mk0
  · rw [hfn]
    exact trodAll_stays hl hb _ hts hlt hA
  · rw [hfn, hv]
    rfl
  · exact Or.inr (Or.inl hp)
end Go.Proofs.YtmomkkakjkkakaaFmt
