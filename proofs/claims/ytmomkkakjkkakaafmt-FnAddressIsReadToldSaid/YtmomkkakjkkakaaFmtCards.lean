/-
  DERIVED. GIVEN WITH THE SEED: THE CARDS: each row of YtmomkkakjkkakaaFmtRows.lean that lists a variable, with what it lists TIED to the program's text (the seventh form; the later family's looks); each row that meets fmt, with fmt's text TOLD by the authors' own Lean function (tested against real Go, not proved from fmt's source: count such statements apart). THE CARD IS WHAT COUNTS. Prove the row's statement (the work); the ties are given (YtmomkkakjkkakaaFmtTie.lean); close each card by the builder's one call (the guide's Derived/Test/ToyasCard.lean, 'card_holds'). Laid BY PROGRAM, IN A SANDBOX (cutbox-door.mjs). By AI agents, Wed Nov 11 2026. No macro, syntax, notation, axiom, sorry.
-/
import Derived.Test.YtmomkkakjkkakaaFmtRows
import GoSem.ClaimSeven
namespace Go.Proofs.YtmomkkakjkkakaaFmt
namespace Rows

/-- THE TOLD AND TIED CARD OF 'laws.FnHashIsRead'. -/
def fnHashIsReadCard : Claim7 := { stood := { row := fnHashIsReadRow, standIns := [], harness := (true, "806389f6b39253a40a9e60745a0d875c3d215c30f986530d2255b7435c2c47a9"), looks := false }, told := true, laidByText := true, laidKinds := [.data, .pinned], laidTests := true, laidLooks := .later, goes := false }
def FnHashIsReadToldSaid : Prop := Claim7.holds Tryf.pinned (.plain (OpenSpec.ofChange fnHashIsReadSpec)) fnHashIsReadCard
/-- ITS FALSE NEIGHBOUR. Refute it at one input. -/
def FnHashIsReadToldWrongFalsely : Prop := Claim7.holds Tryf.pinned (.plain (OpenSpec.ofChange fnHashIsReadWrong)) fnHashIsReadCard

/-- THE TOLD AND TIED CARD OF 'laws.FnIdentEnds'. -/
def fnIdentEndsCard : Claim7 := { stood := { row := fnIdentEndsRow, standIns := [], harness := (true, "806389f6b39253a40a9e60745a0d875c3d215c30f986530d2255b7435c2c47a9"), looks := false }, told := true, laidByText := true, laidKinds := [.data, .pinned], laidTests := true, laidLooks := .later, goes := false }
def FnIdentEndsToldSaid : Prop := Claim7.holds Tryf.pinned (.plain (OpenSpec.ofChange fnIdentEndsSpec)) fnIdentEndsCard
/-- ITS FALSE NEIGHBOUR. Refute it at one input. -/
def FnIdentEndsToldWrongFalsely : Prop := Claim7.holds Tryf.pinned (.plain (OpenSpec.ofChange fnIdentEndsWrong)) fnIdentEndsCard

/-- THE TOLD AND TIED CARD OF 'laws.FnIdentIsRead'. -/
def fnIdentIsReadCard : Claim7 := { stood := { row := fnIdentIsReadRow, standIns := [], harness := (true, "806389f6b39253a40a9e60745a0d875c3d215c30f986530d2255b7435c2c47a9"), looks := false }, told := true, laidByText := true, laidKinds := [.data, .pinned], laidTests := true, laidLooks := .later, goes := false }
def FnIdentIsReadToldSaid : Prop := Claim7.holds Tryf.pinned (.plain (OpenSpec.ofChange fnIdentIsReadSpec)) fnIdentIsReadCard
/-- ITS FALSE NEIGHBOUR. Refute it at one input. -/
def FnIdentIsReadToldWrongFalsely : Prop := Claim7.holds Tryf.pinned (.plain (OpenSpec.ofChange fnIdentIsReadWrong)) fnIdentIsReadCard

/-- THE TOLD AND TIED CARD OF 'laws.FnUnitBehindAPowerIsRead'. -/
def fnUnitBehindAPowerIsReadCard : Claim7 := { stood := { row := fnUnitBehindAPowerIsReadRow, standIns := [], harness := (true, "806389f6b39253a40a9e60745a0d875c3d215c30f986530d2255b7435c2c47a9"), looks := false }, told := true, laidByText := true, laidKinds := [.data, .pinned], laidTests := true, laidLooks := .later, goes := false }
def FnUnitBehindAPowerIsReadToldSaid : Prop := Claim7.holds Tryf.pinned (.plain (OpenSpec.ofChange fnUnitBehindAPowerIsReadSpec)) fnUnitBehindAPowerIsReadCard
/-- ITS FALSE NEIGHBOUR. Refute it at one input. -/
def FnUnitBehindAPowerIsReadToldWrongFalsely : Prop := Claim7.holds Tryf.pinned (.plain (OpenSpec.ofChange fnUnitBehindAPowerIsReadWrong)) fnUnitBehindAPowerIsReadCard

/-- THE TOLD AND TIED CARD OF 'laws.FnUnitIsRead'. -/
def fnUnitIsReadCard : Claim7 := { stood := { row := fnUnitIsReadRow, standIns := [], harness := (true, "806389f6b39253a40a9e60745a0d875c3d215c30f986530d2255b7435c2c47a9"), looks := false }, told := true, laidByText := true, laidKinds := [.data, .pinned], laidTests := true, laidLooks := .later, goes := false }
def FnUnitIsReadToldSaid : Prop := Claim7.holds Tryf.pinned (.plain (OpenSpec.ofChange fnUnitIsReadSpec)) fnUnitIsReadCard
/-- ITS FALSE NEIGHBOUR. Refute it at one input. -/
def FnUnitIsReadToldWrongFalsely : Prop := Claim7.holds Tryf.pinned (.plain (OpenSpec.ofChange fnUnitIsReadWrong)) fnUnitIsReadCard

/-- THE TOLD AND TIED CARD OF 'laws.FnQuotedByIsRead'. -/
def fnQuotedByIsReadCard : Claim7 := { stood := { row := fnQuotedByIsReadRow, standIns := [], harness := (true, "806389f6b39253a40a9e60745a0d875c3d215c30f986530d2255b7435c2c47a9"), looks := false }, told := true, laidByText := true, laidKinds := [.data, .data, .data, .pinned, .pinned], laidTests := true, laidLooks := .later, goes := false }
def FnQuotedByIsReadToldSaid : Prop := Claim7.holds Tryf.pinned (.plain (OpenSpec.ofChange fnQuotedByIsReadSpec)) fnQuotedByIsReadCard
/-- ITS FALSE NEIGHBOUR. Refute it at one input. -/
def FnQuotedByIsReadToldWrongFalsely : Prop := Claim7.holds Tryf.pinned (.plain (OpenSpec.ofChange fnQuotedByIsReadWrong)) fnQuotedByIsReadCard

/-- THE TOLD AND TIED CARD OF 'laws.FnDecodedIdent'. -/
def fnDecodedIdentCard : Claim7 := { stood := { row := fnDecodedIdentRow, standIns := [], harness := (true, "806389f6b39253a40a9e60745a0d875c3d215c30f986530d2255b7435c2c47a9"), looks := false }, told := true, laidByText := true, laidKinds := [.data, .pinned], laidTests := true, laidLooks := .later, goes := false }
def FnDecodedIdentToldSaid : Prop := Claim7.holds Tryf.pinned (.plain (OpenSpec.ofChange fnDecodedIdentSpec)) fnDecodedIdentCard
/-- ITS FALSE NEIGHBOUR. Refute it at one input. -/
def FnDecodedIdentToldWrongFalsely : Prop := Claim7.holds Tryf.pinned (.plain (OpenSpec.ofChange fnDecodedIdentWrong)) fnDecodedIdentCard

/-- THE TOLD AND TIED CARD OF 'laws.FnQuotedIsRead'. -/
def fnQuotedIsReadCard : Claim7 := { stood := { row := fnQuotedIsReadRow, standIns := [], harness := (true, "806389f6b39253a40a9e60745a0d875c3d215c30f986530d2255b7435c2c47a9"), looks := false }, told := true, laidByText := true, laidKinds := [.data, .data, .data, .pinned, .pinned], laidTests := true, laidLooks := .later, goes := false }
def FnQuotedIsReadToldSaid : Prop := Claim7.holds Tryf.pinned (.plain (OpenSpec.ofChange fnQuotedIsReadSpec)) fnQuotedIsReadCard
/-- ITS FALSE NEIGHBOUR. Refute it at one input. -/
def FnQuotedIsReadToldWrongFalsely : Prop := Claim7.holds Tryf.pinned (.plain (OpenSpec.ofChange fnQuotedIsReadWrong)) fnQuotedIsReadCard

/-- THE TOLD AND TIED CARD OF 'laws.FnAddressIsRead'. -/
def fnAddressIsReadCard : Claim7 := { stood := { row := fnAddressIsReadRow, standIns := [], harness := (true, "806389f6b39253a40a9e60745a0d875c3d215c30f986530d2255b7435c2c47a9"), looks := false }, told := true, laidByText := true, laidKinds := [.data, .data, .data, .pinned, .pinned], laidTests := true, laidLooks := .later, goes := false }
def FnAddressIsReadToldSaid : Prop := Claim7.holds Tryf.pinned (.plain (OpenSpec.ofChange fnAddressIsReadSpec)) fnAddressIsReadCard
/-- ITS FALSE NEIGHBOUR. Refute it at one input. -/
def FnAddressIsReadToldWrongFalsely : Prop := Claim7.holds Tryf.pinned (.plain (OpenSpec.ofChange fnAddressIsReadWrong)) fnAddressIsReadCard

/-- THE TOLD AND TIED CARD OF 'laws.FnBestQuote'. -/
def fnBestQuoteCard : Claim7 := { stood := { row := fnBestQuoteRow, standIns := [], harness := (true, "806389f6b39253a40a9e60745a0d875c3d215c30f986530d2255b7435c2c47a9"), looks := false }, told := true, laidByText := true, laidKinds := [.data, .data, .data, .pinned, .pinned], laidTests := true, laidLooks := .later, goes := false }
def FnBestQuoteToldSaid : Prop := Claim7.holds Tryf.pinned (.plain (OpenSpec.ofChange fnBestQuoteSpec)) fnBestQuoteCard
/-- ITS FALSE NEIGHBOUR. Refute it at one input. -/
def FnBestQuoteToldWrongFalsely : Prop := Claim7.holds Tryf.pinned (.plain (OpenSpec.ofChange fnBestQuoteWrong)) fnBestQuoteCard

/-- THE TOLD AND TIED CARD OF 'laws.FnDecodedQuoted'. -/
def fnDecodedQuotedCard : Claim7 := { stood := { row := fnDecodedQuotedRow, standIns := [], harness := (true, "806389f6b39253a40a9e60745a0d875c3d215c30f986530d2255b7435c2c47a9"), looks := false }, told := true, laidByText := true, laidKinds := [.data, .data, .data, .pinned, .pinned], laidTests := true, laidLooks := .later, goes := false }
def FnDecodedQuotedToldSaid : Prop := Claim7.holds Tryf.pinned (.plain (OpenSpec.ofChange fnDecodedQuotedSpec)) fnDecodedQuotedCard
/-- ITS FALSE NEIGHBOUR. Refute it at one input. -/
def FnDecodedQuotedToldWrongFalsely : Prop := Claim7.holds Tryf.pinned (.plain (OpenSpec.ofChange fnDecodedQuotedWrong)) fnDecodedQuotedCard
end Rows
end Go.Proofs.YtmomkkakjkkakaaFmt
