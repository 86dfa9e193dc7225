/-
  DERIVED. GIVEN WITH THE SEED: THE CARDS: each row of YtidennjnaihfbaaFmtRows.lean that lists a variable, with what it lists TIED to the program's text (the seventh form; the later family's looks); each row that meets fmt, with fmt's text TOLD by the authors' own Lean function (tested against real Go, not proved from fmt's source: count such statements apart). THE CARD IS WHAT COUNTS. Prove the row's statement (the work); the ties are given (YtidennjnaihfbaaFmtTie.lean); close each card by the builder's one call (the guide's Derived/Test/ToyasCard.lean, 'card_holds'). Laid BY PROGRAM, IN A SANDBOX (cutbox-door.mjs). By AI agents, Wed Nov 11 2026. No macro, syntax, notation, axiom, sorry.
-/
import Derived.Test.YtidennjnaihfbaaFmtRows
import GoSem.ClaimSeven
namespace Go.Proofs.YtidennjnaihfbaaFmt
namespace Rows

/-- THE TOLD CARD OF 'n025_42.FnTextScannerSymbolTableAcceptsExactlyEight'. -/
def fnTextScannerSymbolTableAcceptsExactlyEightCard : Claim7 := { stood := { row := fnTextScannerSymbolTableAcceptsExactlyEightRow, standIns := [], harness := (true, "e17d7cfa3c82418c192f21bf6feadbecd58440bd131105cce13c09e5da938315"), looks := false }, told := true, goes := false }
def FnTextScannerSymbolTableAcceptsExactlyEightToldSaid : Prop := Claim7.holds Tryf.pinned (.plain (OpenSpec.ofChange fnTextScannerSymbolTableAcceptsExactlyEightSpec)) fnTextScannerSymbolTableAcceptsExactlyEightCard
/-- ITS FALSE NEIGHBOUR. Refute it at one input. -/
def FnTextScannerSymbolTableAcceptsExactlyEightToldWrongFalsely : Prop := Claim7.holds Tryf.pinned (.plain (OpenSpec.ofChange fnTextScannerSymbolTableAcceptsExactlyEightWrong)) fnTextScannerSymbolTableAcceptsExactlyEightCard

/-- THE TOLD CARD OF 'n025_17.FnMakeSymbolTableTextScanner'. -/
def fnMakeSymbolTableTextScannerCard : Claim7 := { stood := { row := fnMakeSymbolTableTextScannerRow, standIns := [], harness := (true, "e17d7cfa3c82418c192f21bf6feadbecd58440bd131105cce13c09e5da938315"), looks := false }, told := true, goes := false }
def FnMakeSymbolTableTextScannerToldSaid : Prop := Claim7.holds Tryf.pinned (.plain (OpenSpec.ofChange fnMakeSymbolTableTextScannerSpec)) fnMakeSymbolTableTextScannerCard
/-- ITS FALSE NEIGHBOUR. Refute it at one input. -/
def FnMakeSymbolTableTextScannerToldWrongFalsely : Prop := Claim7.holds Tryf.pinned (.plain (OpenSpec.ofChange fnMakeSymbolTableTextScannerWrong)) fnMakeSymbolTableTextScannerCard
end Rows
end Go.Proofs.YtidennjnaihfbaaFmt
