/-
  DERIVED. GIVEN WITH THE SEED: THE CARDS: each row of YtaododnlaehaeaaFmtRows.lean that lists a variable, with what it lists TIED to the program's text (the seventh form; the later family's looks); each row that meets fmt, with fmt's text TOLD by the authors' own Lean function (tested against real Go, not proved from fmt's source: count such statements apart). THE CARD IS WHAT COUNTS. Prove the row's statement (the work); the ties are given (YtaododnlaehaeaaFmtTie.lean); close each card by the builder's one call (the guide's Derived/Test/ToyasCard.lean, 'card_holds'). Laid BY PROGRAM, IN A SANDBOX (cutbox-door.mjs). By AI agents, Wed Nov 11 2026. No macro, syntax, notation, axiom, sorry.
-/
import Derived.Test.YtaododnlaehaeaaFmtRows
import GoSem.ClaimSeven
namespace Go.Proofs.YtaododnlaehaeaaFmt
namespace Rows

/-- THE TOLD CARD OF 'n025_8.FnReferenceGoStringInjectiveTypeFree'. -/
def fnReferenceGoStringInjectiveTypeFreeCard : Claim7 := { stood := { row := fnReferenceGoStringInjectiveTypeFreeRow, standIns := [], harness := (true, "3d071db0baccbb5e3bb69999e9881bbb0e835a64f1d787351425924d34440f7d"), looks := false }, told := true, goes := false }
def FnReferenceGoStringInjectiveTypeFreeToldSaid : Prop := Claim7.holds Tryf.pinned (.plain (OpenSpec.ofChange fnReferenceGoStringInjectiveTypeFreeSpec)) fnReferenceGoStringInjectiveTypeFreeCard
/-- ITS FALSE NEIGHBOUR. Refute it at one input. -/
def FnReferenceGoStringInjectiveTypeFreeToldWrongFalsely : Prop := Claim7.holds Tryf.pinned (.plain (OpenSpec.ofChange fnReferenceGoStringInjectiveTypeFreeWrong)) fnReferenceGoStringInjectiveTypeFreeCard
end Rows
end Go.Proofs.YtaododnlaehaeaaFmt
