/-
  CARDS: what is common to them: closed facts of the program; the two tables of utf8; a slice of bytes as an argument.
-/
import Derived.Test.YtmomkkakjkkakaaFmtCards
import Derived.Test.YtmomkkakjkkakaaFmtTie
import Derived.Test.YtmomkkakjkkakaaFmtRowK
import Derived.Test.YtmomkkakjkkakaaFmtNumr
import Derived.Test.YtmomkkakjkkakaaFmtShelf
import Derived.Test.YtmomkkakjkkakaaFmtDecode
import Derived.WalkKit
import Derived.ProofKit
import Derived.OpenShut
import Derived.Carry
import Derived.ChangeSlices
import Derived.ChangeMaps5
import Derived.SevenTiedAt
import Derived.Stop.Joined
import Derived.Stop.JoinedTold
import Derived.Lib.LaidU8
set_option linter.unusedVariables false
set_option linter.unusedSimpArgs false
set_option maxRecDepth 100000
namespace Go.Proofs.YtmomkkakjkkakaaFmt
open Go.ChangeShapes Go.WideShapes Go.ChangeAt Go.RowKit Go.Extern.Stop Go.Stop Go.Extern

theorem own : ownKnob Tryf.prog.godebug = none := by kernel_rfl
theorem laidOut : laidOutB Tryf.pinned.checked.prog = true := by kernel_rfl
theorem cellsU8 : Tryf.prog.cellsOf 5 = 1 := by kernel_rfl
theorem stops : Tryf.pinned.checked.prog.stops = ["fmt.Sprintf"] := by kernel_rfl
theorem stopKnobs : Tryf.pinned.checked.prog.stopKnobs = [] := by kernel_rfl
theorem quiet (os : Os) : Stop.quiet Tryf.pinned.checked.prog os := by
  intro k hk
  rw [stopKnobs] at hk
  cases hk
theorem u8x : U8Extra Tryf.prog Tryf.lays260_ren := ⟨by kernel_rfl, by kernel_rfl, by kernel_rfl, by kernel_rfl, by kernel_rfl, by kernel_rfl, by kernel_rfl⟩
theorem dAcc : (Rows.laid_unicode_utf8_acceptRanges : DataW Unit) = Lib.acceptData := by kernel_rfl
theorem dFirst : (Rows.laid_unicode_utf8_first : DataW Unit) = Lib.firstData := by kernel_rfl
theorem tabsOf {l : List (String × DataW Unit)} {W : World} (h' : laidMet Tryf.prog l W) (h1 : ("unicode/utf8.first", Rows.laid_unicode_utf8_first) ∈ l) (h2 : ("unicode/utf8.acceptRanges", Rows.laid_unicode_utf8_acceptRanges) ∈ l) : Tabs W :=
  utf8Tabs_of_reads Tryf.lays260 u8x (dFirst ▸ Lib.laidMet.reads h' h1) (dAcc ▸ Lib.laidMet.reads h' h2)
/-- a slice of bytes, opened -/
theorem open_bytes {H : Type} {enc : TypeId × Value → H} {W : World} {base : Nat} {v : Value} {d : DataW H} {p : List MemPlace} (hval : Value.okWide Tryf.prog W .any base 31 v)
    (h : DataW.Trod enc Tryf.prog W 0 (fun _ => true) true 31 v d p) : ∃ (a : Option Addr) (n cap : Nat) (f : Nat → Nat), v = .slice a n cap ∧ n ≤ 9223372036854775807 ∧ Bytes W a n f := by
  obtain ⟨a0, len, cap, rfl⟩ := okWide_slice Tryf.underlying31 hval
  obtain ⟨fuel, hf⟩ := h
  rcases open_ints Tryf.underlying31 Tryf.underlying5 cellsU8 hf with ⟨hcs, _⟩ | ⟨a, len', cap', zs, hcs, _, hl, hm, hz, _, hcell, hwf⟩
  · simp [Value.cells] at hcs
    obtain ⟨rfl, rfl, rfl⟩ := hcs
    exact ⟨none, 0, 0, fun _ => 0, rfl, by omega, .inl rfl⟩
  · simp [Value.cells] at hcs
    obtain ⟨rfl, rfl, rfl⟩ := hcs
    simp only [if_true] at hz
    unfold maxLen at hm
    have hmem : ∀ i, i < len → 0 ≤ zs.getD i 0 ∧ zs.getD i 0 < 256 := by
      intro i hi
      have hi' : i < zs.length := by omega
      rw [List.getD_eq_getElem?_getD, List.getElem?_eq_getElem hi', Option.getD_some]
      have := hwf _ (List.getElem_mem hi')
      simp [Lit.wf, IntKind.min, IntKind.max, IntKind.signed, IntKind.bits] at this
      omega
    by_cases h0 : len = 0
    · subst h0
      exact ⟨some a, 0, cap, fun _ => 0, rfl, by omega, .inl rfl⟩
    · have hspot : a.spot = none := by simpa [Addr.add] using World.cell?_spot (hcell 0 (by omega))
      obtain ⟨b, off, spot⟩ := a
      simp only at hspot
      subst hspot
      refine ⟨_, len, cap, fun i => (zs.getD i 0).toNat, rfl, by omega, .inr ⟨b, off, rfl, fun i hi => ?_, fun i hi => ?_⟩⟩
      · have := hcell i (by omega)
        rw [add_plain] at this
        rw [this]
        have := hmem i hi
        congr 2
        show zs.getD i 0 = ((zs.getD i 0).toNat : Int)
        omega
      · have := hmem i hi
        show (zs.getD i 0).toNat < 256
        omega

/-- A WORLD FOR THE WITNESS: the settled one, the two tables holding what Go's own text lays in them. -/
def accCells : Array Value := #[.int .u8 128, .int .u8 191, .int .u8 160, .int .u8 191, .int .u8 128, .int .u8 159, .int .u8 144, .int .u8 191, .int .u8 128, .int .u8 143, .int .u8 0, .int .u8 0, .int .u8 0, .int .u8 0, .int .u8 0, .int .u8 0, .int .u8 0, .int .u8 0, .int .u8 0, .int .u8 0, .int .u8 0, .int .u8 0, .int .u8 0, .int .u8 0, .int .u8 0, .int .u8 0, .int .u8 0, .int .u8 0, .int .u8 0, .int .u8 0, .int .u8 0, .int .u8 0]
noncomputable def firstCells : Array Value := (Pinned.utf8FirstZ.map fun (n : Nat) => Value.int .u8 (n : Int)).toArray
def setRow (cs : Array Value) : Obj → Obj
  | .cells _ t frozen => .cells cs t frozen
  | o => o
noncomputable def laidWorld (os : Os) : World :=
  { World.holding Tryf.prog os ⟨#[], #[], []⟩ with heap := ((World.holding Tryf.prog os ⟨#[], #[], []⟩).heap.modify 0 (setRow firstCells)).modify 1 (setRow accCells) }
theorem laid_met (os : Os) (args : Array Value) : laidMet Tryf.prog [("unicode/utf8.acceptRanges", Rows.laid_unicode_utf8_acceptRanges), ("unicode/utf8.first", Rows.laid_unicode_utf8_first)] ((laidWorld os).forCall (fun _ _ => 0) ⟨#[], args, []⟩).memory :=
  laidMet_of_run' 8 (by kernel_rfl) (by kernel_rfl)
end Go.Proofs.YtmomkkakjkkakaaFmt
