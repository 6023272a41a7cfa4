/-
  CARDS OF TEXTS IN QUOTES: closed facts of the program; the tables of utf8 and of package unicode; a world for the witness.
-/
import Derived.Test.YtmomkkakjkkakaaFmtCards
import Derived.Test.YtmomkkakjkkakaaFmtTie
import Derived.Test.YtmomkkakjkkakaaFmtRowK
import Derived.Test.YtmomkkakjkkakaaFmtFold
import Derived.Lib.LaidCaseMet
import Derived.PinnedBridge
import Derived.Deep.DeepWitnessRef
import Derived.Test.YtmomkkakjkkakaaFmtShelf
import Derived.Test.YtmomkkakjkkakaaFmtDecode
import Derived.WalkKit
import Derived.ProofKit
import Derived.OpenShut
import Derived.Carry
import Derived.ChangeSlices
import Derived.ChangeMaps5
import Derived.SevenTiedAt
import Derived.Stop.Joined
import Derived.Stop.JoinedTold
import Derived.Lib.LaidU8
set_option linter.unusedVariables false
set_option linter.unusedSimpArgs false
set_option maxRecDepth 100000
namespace Go.Proofs.YtmomkkakjkkakaaFmt
open Go.ChangeShapes Go.WideShapes Go.ChangeAt Go.RowKit Go.Extern.Stop Go.Stop Go.Extern

theorem own : ownKnob Tryf.prog.godebug = none := by kernel_rfl
theorem laidOut : laidOutB Tryf.pinned.checked.prog = true := by kernel_rfl
theorem stops : Tryf.pinned.checked.prog.stops = ["fmt.Sprintf"] := by kernel_rfl
theorem stopKnobs : Tryf.pinned.checked.prog.stopKnobs = [] := by kernel_rfl
theorem quiet (os : Os) : Stop.quiet Tryf.pinned.checked.prog os := by
  intro k hk
  rw [stopKnobs] at hk
  cases hk
theorem u8x : U8Extra Tryf.prog Tryf.lays260_ren := ⟨by kernel_rfl, by kernel_rfl, by kernel_rfl, by kernel_rfl, by kernel_rfl, by kernel_rfl, by kernel_rfl⟩
theorem dAcc : (Rows.laid_unicode_utf8_acceptRanges : DataW Unit) = Lib.acceptData := by kernel_rfl
theorem dFirst : (Rows.laid_unicode_utf8_first : DataW Unit) = Lib.firstData := by kernel_rfl
theorem tabsOf {l : List (String × DataW Unit)} {W : World} (h' : laidMet Tryf.prog l W) (h1 : ("unicode/utf8.first", Rows.laid_unicode_utf8_first) ∈ l) (h2 : ("unicode/utf8.acceptRanges", Rows.laid_unicode_utf8_acceptRanges) ∈ l) : Tabs W :=
  utf8Tabs_of_reads Tryf.lays260 u8x (dFirst ▸ Lib.laidMet.reads h' h1) (dAcc ▸ Lib.laidMet.reads h' h2)
/-- A WORLD FOR THE WITNESS: the settled one, the two tables holding what Go's own text lays in them. -/
def accCells : Array Value := #[.int .u8 128, .int .u8 191, .int .u8 160, .int .u8 191, .int .u8 128, .int .u8 159, .int .u8 144, .int .u8 191, .int .u8 128, .int .u8 143, .int .u8 0, .int .u8 0, .int .u8 0, .int .u8 0, .int .u8 0, .int .u8 0, .int .u8 0, .int .u8 0, .int .u8 0, .int .u8 0, .int .u8 0, .int .u8 0, .int .u8 0, .int .u8 0, .int .u8 0, .int .u8 0, .int .u8 0, .int .u8 0, .int .u8 0, .int .u8 0, .int .u8 0, .int .u8 0]
noncomputable def firstCells : Array Value := (Pinned.utf8FirstZ.map fun (n : Nat) => Value.int .u8 (n : Int)).toArray
def setRow (cs : Array Value) : Obj → Obj
  | .cells _ t frozen => .cells cs t frozen
  | o => o
noncomputable def laidWorld (os : Os) : World :=
  { World.holding Tryf.prog os ⟨#[], #[], []⟩ with heap := ((World.holding Tryf.prog os ⟨#[], #[], []⟩).heap.modify 0 (setRow firstCells)).modify 1 (setRow accCells) }
theorem laid_met (os : Os) (args : Array Value) : laidMet Tryf.prog [("unicode/utf8.acceptRanges", Rows.laid_unicode_utf8_acceptRanges), ("unicode/utf8.first", Rows.laid_unicode_utf8_first)] ((laidWorld os).forCall (fun _ _ => 0) ⟨#[], args, []⟩).memory :=
  laidMet_of_run' 8 (by kernel_rfl) (by kernel_rfl)

def foldT : List Int := [0, 1, 2, 3, 4, 5, 6, 7, 8, 9, 10, 11, 12, 13, 14, 15, 16, 17, 18, 19, 20, 21, 22, 23, 24, 25, 26, 27, 28, 29, 30, 31, 32, 33, 34, 35, 36, 37, 38, 39, 40, 41, 42, 43, 44, 45, 46, 47, 48, 49, 50, 51, 52, 53, 54, 55, 56, 57, 58, 59, 60, 61, 62, 63, 64, 97, 98, 99, 100, 101, 102, 103, 104, 105, 106, 107, 108, 109, 110, 111, 112, 113, 114, 115, 116, 117, 118, 119, 120, 121, 122, 91, 92, 93, 94, 95, 96, 65, 66, 67, 68, 69, 70, 71, 72, 73, 74, 8490, 76, 77, 78, 79, 80, 81, 82, 383, 84, 85, 86, 87, 88, 89, 90, 123, 124, 125, 126, 127]
def orbT : List (Int × Int) := [(75, 107), (83, 115), (107, 8490), (115, 383), (181, 924), (197, 229), (223, 7838), (229, 8491), (304, 304), (305, 305), (383, 83), (452, 453), (453, 454), (454, 452), (455, 456), (456, 457), (457, 455), (458, 459), (459, 460), (460, 458), (497, 498), (498, 499), (499, 497), (837, 921), (912, 8147), (914, 946), (917, 949), (920, 952), (921, 953), (922, 954), (924, 956), (928, 960), (929, 961), (931, 962), (934, 966), (937, 969), (944, 8163), (946, 976), (949, 1013), (952, 977), (953, 8126), (954, 1008), (956, 181), (960, 982), (961, 1009), (962, 963), (963, 931), (966, 981), (969, 8486), (976, 914), (977, 1012), (981, 934), (982, 928), (1008, 922), (1009, 929), (1012, 920), (1013, 917), (1042, 1074), (1044, 1076), (1054, 1086), (1057, 1089), (1058, 1090), (1066, 1098), (1074, 7296), (1076, 7297), (1086, 7298), (1089, 7299), (1090, 7300), (1098, 7302), (1122, 1123), (1123, 7303), (7296, 1042), (7297, 1044), (7298, 1054), (7299, 1057), (7300, 7301), (7301, 1058), (7302, 1066), (7303, 1122), (7304, 42570), (7776, 7777), (7777, 7835), (7835, 7776), (7838, 223), (8126, 837), (8147, 912), (8163, 944), (8486, 937), (8490, 75), (8491, 197), (42570, 42571), (42571, 7304), (64261, 64262), (64262, 64261)]
theorem dFold : (Rows.laid_unicode_asciiFold : DataW Unit) = Lib.tabData .u16 foldT := by kernel_rfl
theorem dOrb : (Rows.laid_unicode_caseOrbit : DataW Unit) = .slice (orbT.map fun x => .agg ([x.1, x.2].map fun z => .lit (.int .u16 z))) [] := by kernel_rfl
theorem dCase : (Rows.laid_unicode_CaseRanges : DataW Unit) = Lib.caseData := Pinned.caseRanges_eq
theorem nFold : Tryf.prog.globalNamed "unicode.asciiFold" = some 2 := by kernel_rfl
theorem yFold : (Tryf.prog.globals[2]?).map (·.type) = some 129 := by kernel_rfl
theorem nOrb : Tryf.prog.globalNamed "unicode.caseOrbit" = some 3 := by kernel_rfl
theorem yOrb : (Tryf.prog.globals[3]?).map (·.type) = some 130 := by kernel_rfl
theorem cU16 : Tryf.prog.cellsOf 60 = 1 := by kernel_rfl
theorem cFold : Tryf.prog.cellsOf 129 = 128 := by kernel_rfl
theorem cPair : Tryf.prog.cellsOf 132 = 2 := by kernel_rfl
theorem uFold : Tryf.prog.underlying 129 = some (.array 128 60) := by kernel_rfl
theorem foldsOf {l : List (String × DataW Unit)} {W : World} (h' : laidMet Tryf.prog l W) (h1 : ("unicode.asciiFold", Rows.laid_unicode_asciiFold) ∈ l) (h2 : ("unicode.caseOrbit", Rows.laid_unicode_caseOrbit) ∈ l) : Folds W := by
  refine ⟨?_, ?_⟩
  · obtain ⟨g, t, cs, fuel, p, hg, hty, hvar, hd⟩ := (dFold ▸ Lib.laidMet.reads h' h1 : Lib.VarReads Tryf.prog W "unicode.asciiFold" (Lib.tabData .u16 foldT))
    obtain rfl := Option.some.inj (nFold.symm.trans hg)
    obtain rfl := Option.some.inj (yFold.symm.trans hty)
    have hcs := Lib.cells_of_tab uFold Tryf.underlying60 cU16 cFold hd
    intro q hq
    have hv := World.var?_cell hg hvar q.1
    rw [hv, ← Array.getElem?_toList, hcs]
    simp only [foldPairs, List.mem_cons, List.mem_nil_iff, or_false] at hq
    rcases hq with rfl | rfl | rfl | rfl | rfl | rfl | rfl | rfl | rfl | rfl <;> rfl
  · obtain ⟨g, t, cs, fuel, p, hg, hty, hvar, hd⟩ := (dOrb ▸ Lib.laidMet.reads h' h2 : Lib.VarReads Tryf.prog W "unicode.caseOrbit" (.slice (orbT.map fun x => .agg ([x.1, x.2].map fun z => .lit (.int .u16 z))) []))
    obtain rfl := Option.some.inj (nOrb.symm.trans hg)
    obtain rfl := Option.some.inj (yOrb.symm.trans hty)
    rcases DataW.trod_slice Tryf.underlying130 hd with ⟨_, hx'⟩ | ⟨a', len, cap, el, rs, m, hcs, hc0, hx', _, hlc, _, hel, helem, hsp, _⟩
    · cases hx'
    have e0 := congrArg Prod.fst hx'
    simp only [DataW.slice.injEq] at e0
    obtain ⟨eE, _⟩ := e0
    have hlen : len = 94 := by
      have := congrArg List.length eE
      rw [List.length_map, List.length_map, hel] at this
      exact this.symm
    subst hlen
    have hrow : ∀ i x, orbT[i]? = some x → i < 94 → ∀ j, j < 2 → W.cell? ((a'.add (i * 2)).add j) = ([.int .u16 x.1, .int .u16 x.2] : List Value)[j]? := by
      intro i x hx hi j hj
      have h1 := helem i hi
      rw [cPair] at h1
      obtain ⟨b, hb⟩ : ∃ b, el[i]? = some b := ⟨el[i]'(by omega), List.getElem?_eq_getElem (by omega)⟩
      rw [hb] at h1
      obtain ⟨ce, hce, hte⟩ := Option.bind_eq_some_iff.1 h1
      have hb1 : b.1 = .agg ([x.1, x.2].map fun z => .lit (.int .u16 z)) := by
        have := congrArg (·[i]?) eE
        simp only [List.getElem?_map, hb, hx, Option.map_some, Option.some.injEq] at this
        exact this.symm
      have hcs := Lib.ints_of_struct (p := b.2) Tryf.underlying132 (fun q f hq => by
        match q, hq with
        | 0, hq => simp at hq; subst hq; exact ⟨Tryf.underlying60, rfl, cU16⟩
        | 1, hq => simp at hq; subst hq; exact ⟨Tryf.underlying60, rfl, cU16⟩
        | q + 2, hq => simp at hq) (by rw [cPair]; rfl) (by rw [← hb1]; exact hte)
      obtain ⟨_, _, hcc⟩ := World.cells?_some hce
      rw [hcc j hj, hcs]
      rfl
    obtain ⟨R, o, sR⟩ := a'
    obtain rfl : sR = none := by
      have h00 := hrow 0 _ rfl (by omega) 0 (by omega)
      have : (Addr.add (Addr.add ⟨R, o, sR⟩ (0 * 2)) 0) = ⟨R, o, sR⟩ := by simp [Addr.add]
      rw [this] at h00
      exact World.cell?_spot h00
    refine ⟨R, o, cap, ?_, ?_, ?_⟩
    · have hv := World.var?_cell hg hvar 0
      rw [hv, ← Array.getElem?_toList, hc0]
      rfl
    · intro q hq
      simp only [orbPairs, List.mem_cons, List.mem_nil_iff, or_false] at hq
      rcases hq with rfl | rfl | rfl | rfl | rfl | rfl | rfl
      · have h := hrow 47 _ rfl (by omega) 0 (by omega)
        rw [Addr.add_lit, Addr.add_lit] at h
        simpa using h
      · have h := hrow 23 _ rfl (by omega) 0 (by omega)
        rw [Addr.add_lit, Addr.add_lit] at h
        simpa using h
      · have h := hrow 11 _ rfl (by omega) 0 (by omega)
        rw [Addr.add_lit, Addr.add_lit] at h
        simpa using h
      · have h := hrow 5 _ rfl (by omega) 0 (by omega)
        rw [Addr.add_lit, Addr.add_lit] at h
        simpa using h
      · have h := hrow 8 _ rfl (by omega) 0 (by omega)
        rw [Addr.add_lit, Addr.add_lit] at h
        simpa using h
      · have h := hrow 10 _ rfl (by omega) 0 (by omega)
        rw [Addr.add_lit, Addr.add_lit] at h
        simpa using h
      · have h := hrow 9 _ rfl (by omega) 0 (by omega)
        rw [Addr.add_lit, Addr.add_lit] at h
        simpa using h
    · have h := hrow 10 _ rfl (by omega) 1 (by omega)
      rw [Addr.add_lit, Addr.add_lit] at h
      simpa using h

/-! ## a world for the witness -/
noncomputable def foldCells : Array Value := (foldT.map fun z => Value.int .u16 z).toArray
noncomputable def orbCells : Array Value := (orbT.flatMap fun x => [Value.int .u16 x.1, Value.int .u16 x.2]).toArray
def caseRen : Go.Shelf.Ren := ⟨Tryf.lays274_ren.f, Tryf.lays274_ren.t, fun | 13 => 4 | n => n⟩
noncomputable def laidWorld5 (os : Os) : World :=
  let N := (World.settled Tryf.prog os).heap.size
  let w0 := World.holding Tryf.prog os ⟨#[.cells orbCells 132, .cells Lib.caseCells5 142], #[], []⟩
  let h1 := w0.heap.modify 0 (setRow firstCells)
  let h2 := h1.modify 1 (setRow accCells)
  let h3 := h2.modify 2 (setRow foldCells)
  let h4 := h3.modify 3 (setRow #[.slice (some ⟨N, 0, none⟩) 94 94])
  let h5 := h4.modify 4 (setRow #[.slice (some ⟨N + 1, 0, none⟩) 336 336])
  { w0 with heap := h5 }
theorem laidVars_swap {P : Program} {w : World} {c f : String × DataW Unit} : ∀ {l : List (String × DataW Unit)} {ps : List MemPlace}, DataW.LaidVars P w (l ++ [f, c]) ps → ∃ ps', DataW.LaidVars P w (l ++ [c, f]) ps' ∧ ps'.Perm ps
  | [], ps, h => by
    obtain ⟨nf, df⟩ := f
    obtain ⟨nc, dc⟩ := c
    obtain ⟨g, t, cs, fuel, p, q, h1, h2, h3, h4, h5, rfl⟩ := h
    obtain ⟨g', t', cs', fuel', p', q', k1, k2, k3, k4, k5, rfl⟩ := h5
    cases k5
    refine ⟨_, ⟨g', t', cs', fuel', p', _, k1, k2, k3, k4, ⟨g, t, cs, fuel, p, [], h1, h2, h3, h4, rfl, rfl⟩, rfl⟩, ?_⟩
    rw [List.append_nil, List.append_nil]
    exact List.perm_append_comm
  | (n, d) :: r, ps, h => by
    obtain ⟨g, t, cs, fuel, p, q, h1, h2, h3, h4, h5, rfl⟩ := h
    obtain ⟨q', k1, k2⟩ := laidVars_swap (l := r) h5
    exact ⟨_, ⟨g, t, cs, fuel, p, q', h1, h2, h3, h4, k1, rfl⟩, List.Perm.append_left _ k2⟩
theorem laidMet_swap {P : Program} {w : World} {c f : String × DataW Unit} {l : List (String × DataW Unit)} (h : laidMet P (l ++ [f, c]) w) : laidMet P (l ++ [c, f]) w := by
  obtain ⟨ps, h1, h2, h3⟩ := h
  obtain ⟨ps', k1, k2⟩ := laidVars_swap h1
  exact ⟨ps', k1, k2.nodup_iff.2 h2, fun b off hp => h3 b off (k2.mem_iff.1 hp)⟩
theorem caseX : CaseExtra Tryf.prog caseRen := ⟨by kernel_rfl, by kernel_rfl, by kernel_rfl, by kernel_rfl, by kernel_rfl, by kernel_rfl⟩
theorem laid_met5 (os : Os) (args : Array Value) : laidMet Tryf.prog [("unicode/utf8.acceptRanges", Rows.laid_unicode_utf8_acceptRanges), ("unicode.asciiFold", Rows.laid_unicode_asciiFold), ("unicode.caseOrbit", Rows.laid_unicode_caseOrbit), ("unicode.CaseRanges", Rows.laid_unicode_CaseRanges), ("unicode/utf8.first", Rows.laid_unicode_utf8_first)] ((laidWorld5 os).forCall (fun _ _ => 0) ⟨#[], args, []⟩).memory := by
  rw [dCase]
  refine laidMet_swap (l := [("unicode/utf8.acceptRanges", Rows.laid_unicode_utf8_acceptRanges), ("unicode.asciiFold", Rows.laid_unicode_asciiFold), ("unicode.caseOrbit", Rows.laid_unicode_caseOrbit)]) ?_
  exact laidMet_with_case (ρ := caseRen) { Tryf.lays274 with } (by kernel_rfl) caseX
    (l := [("unicode/utf8.acceptRanges", Rows.laid_unicode_utf8_acceptRanges), ("unicode.asciiFold", Rows.laid_unicode_asciiFold), ("unicode.caseOrbit", Rows.laid_unicode_caseOrbit), ("unicode/utf8.first", Rows.laid_unicode_utf8_first)])
    8 (by kernel_rfl) (by kernel_rfl) (by kernel_rfl) ((World.settled Tryf.prog default).heap.size + 1) 142 (of_decide_eq_true (by kernel_rfl)) (by kernel_rfl) (by kernel_rfl) (by kernel_rfl)
end Go.Proofs.YtmomkkakjkkakaaFmt
