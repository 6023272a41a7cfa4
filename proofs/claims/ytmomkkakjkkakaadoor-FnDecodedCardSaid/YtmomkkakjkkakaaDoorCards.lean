/-
  DERIVED. GIVEN WITH THE SEED: THE CARDS: each row of YtmomkkakjkkakaaDoorRows.lean that lists a variable, with what it lists TIED to the program's text (the seventh form; the later family's looks); each row that meets fmt, with fmt's text TOLD by the authors' own Lean function (tested against real Go, not proved from fmt's source: count such statements apart). THE CARD IS WHAT COUNTS. Prove the row's statement (the work); the ties are given (YtmomkkakjkkakaaDoorTie.lean); close each card by the builder's one call (the guide's Derived/Test/ToyasCard.lean, 'card_holds'). Laid BY PROGRAM, IN A SANDBOX (cutbox-door.mjs). By AI agents, Wed Nov 11 2026. No macro, syntax, notation, axiom, sorry.
-/
import Derived.Test.YtmomkkakjkkakaaDoorRows
import GoSem.ClaimSeven
namespace Go.Proofs.YtmomkkakjkkakaaDoor
namespace Rows

/-- THE TIED CARD OF 'laws.FnDecoded'. -/
def fnDecodedCard : Claim7 := { stood := { row := fnDecodedRow, standIns := [], harness := (true, "a0f89cf498bf9f96337abf61a7f0e5a599f0dabf6296c9645fedbf1416b1eb31"), looks := false }, kinds := [], alts := [], laidByText := true, laidKinds := [.data, .pinned], laidTests := true, laidLooks := .later }
def FnDecodedCardSaid : Prop := Claim7.holds Tryd.pinned (.plain (OpenSpec.ofChange fnDecodedSpec)) fnDecodedCard

/-- THE TIED CARD OF 'laws.FnEscapedIsDecoded'. -/
def fnEscapedIsDecodedCard : Claim7 := { stood := { row := fnEscapedIsDecodedRow, standIns := [], harness := (true, "a0f89cf498bf9f96337abf61a7f0e5a599f0dabf6296c9645fedbf1416b1eb31"), looks := false }, kinds := [], alts := [], laidByText := true, laidKinds := [.data, .pinned], laidTests := true, laidLooks := .later }
def FnEscapedIsDecodedCardSaid : Prop := Claim7.holds Tryd.pinned (.plain (OpenSpec.ofChange fnEscapedIsDecodedSpec)) fnEscapedIsDecodedCard

/-- THE SECOND FORM's CARD OF 'laws.FnDecoded'. -/
def fnDecodedUptoCard : Claim7 := { stood := { row := fnDecodedUptoRow, standIns := [], harness := (true, "a0f89cf498bf9f96337abf61a7f0e5a599f0dabf6296c9645fedbf1416b1eb31"), looks := false }, kinds := [], alts := [], laidByText := true, laidKinds := [.data, .pinned], laidTests := true, laidLooks := .later }
def FnDecodedUptoCardSaid : Prop := Claim7.holds Tryd.pinned (.plain (OpenSpec.upto fnDecodedSpec)) fnDecodedUptoCard

/-- THE SECOND FORM's CARD OF 'laws.FnEscapedIsDecoded'. -/
def fnEscapedIsDecodedUptoCard : Claim7 := { stood := { row := fnEscapedIsDecodedUptoRow, standIns := [], harness := (true, "a0f89cf498bf9f96337abf61a7f0e5a599f0dabf6296c9645fedbf1416b1eb31"), looks := false }, kinds := [], alts := [], laidByText := true, laidKinds := [.data, .pinned], laidTests := true, laidLooks := .later }
def FnEscapedIsDecodedUptoCardSaid : Prop := Claim7.holds Tryd.pinned (.plain (OpenSpec.upto fnEscapedIsDecodedSpec)) fnEscapedIsDecodedUptoCard
end Rows
end Go.Proofs.YtmomkkakjkkakaaDoor
