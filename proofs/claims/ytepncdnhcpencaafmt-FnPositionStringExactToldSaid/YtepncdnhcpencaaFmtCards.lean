/-
  DERIVED. GIVEN WITH THE SEED: THE CARDS: each row of YtepncdnhcpencaaFmtRows.lean that lists a variable, with what it lists TIED to the program's text (the seventh form; the later family's looks); each row that meets fmt, with fmt's text TOLD by the authors' own Lean function (tested against real Go, not proved from fmt's source: count such statements apart). THE CARD IS WHAT COUNTS. Prove the row's statement (the work); the ties are given (YtepncdnhcpencaaFmtTie.lean); close each card by the builder's one call (the guide's Derived/Test/ToyasCard.lean, 'card_holds'). Laid BY PROGRAM, IN A SANDBOX (cutbox-door.mjs). By AI agents, Wed Nov 11 2026. No macro, syntax, notation, axiom, sorry.
-/
import Derived.Test.YtepncdnhcpencaaFmtRows
import GoSem.ClaimSeven
namespace Go.Proofs.YtepncdnhcpencaaFmt
namespace Rows

/-- THE TOLD CARD OF 'n025_17.FnPositionStringExact'. -/
def fnPositionStringExactCard : Claim7 := { stood := { row := fnPositionStringExactRow, standIns := [], harness := (true, "7b07c68a71dee15807fbb6a9b8621f80911c4ae65223eaa98a978fcc9f61baf6"), looks := false }, told := true, goes := false }
def FnPositionStringExactToldSaid : Prop := Claim7.holds Tryf.pinned (.plain (OpenSpec.ofChange fnPositionStringExactSpec)) fnPositionStringExactCard
/-- ITS FALSE NEIGHBOUR. Refute it at one input. -/
def FnPositionStringExactToldWrongFalsely : Prop := Claim7.holds Tryf.pinned (.plain (OpenSpec.ofChange fnPositionStringExactWrong)) fnPositionStringExactCard

/-- THE TOLD CARD OF 'n025_17.FnErrorfEscapedFormatRoundTrip'. -/
def fnErrorfEscapedFormatRoundTripCard : Claim7 := { stood := { row := fnErrorfEscapedFormatRoundTripRow, standIns := [], harness := (true, "7b07c68a71dee15807fbb6a9b8621f80911c4ae65223eaa98a978fcc9f61baf6"), looks := false }, told := true, goes := false }
def FnErrorfEscapedFormatRoundTripToldSaid : Prop := Claim7.holds Tryf.pinned (.plain (OpenSpec.ofChange fnErrorfEscapedFormatRoundTripSpec)) fnErrorfEscapedFormatRoundTripCard
/-- ITS FALSE NEIGHBOUR. Refute it at one input. -/
def FnErrorfEscapedFormatRoundTripToldWrongFalsely : Prop := Claim7.holds Tryf.pinned (.plain (OpenSpec.ofChange fnErrorfEscapedFormatRoundTripWrong)) fnErrorfEscapedFormatRoundTripCard

/-- THE TOLD CARD OF 'n025_17.FnErrorfPercentS'. -/
def fnErrorfPercentSCard : Claim7 := { stood := { row := fnErrorfPercentSRow, standIns := [], harness := (true, "7b07c68a71dee15807fbb6a9b8621f80911c4ae65223eaa98a978fcc9f61baf6"), looks := false }, told := true, goes := false }
def FnErrorfPercentSToldSaid : Prop := Claim7.holds Tryf.pinned (.plain (OpenSpec.ofChange fnErrorfPercentSSpec)) fnErrorfPercentSCard
/-- ITS FALSE NEIGHBOUR. Refute it at one input. -/
def FnErrorfPercentSToldWrongFalsely : Prop := Claim7.holds Tryf.pinned (.plain (OpenSpec.ofChange fnErrorfPercentSWrong)) fnErrorfPercentSCard
end Rows
end Go.Proofs.YtepncdnhcpencaaFmt
