/-
  DERIVED. GIVEN WITH THE SEED: THE CARDS: each row of YtlahcemjknffnaaFmtRows.lean that lists a variable, with what it lists TIED to the program's text (the seventh form; the later family's looks); each row that meets fmt, with fmt's text TOLD by the authors' own Lean function (tested against real Go, not proved from fmt's source: count such statements apart). THE CARD IS WHAT COUNTS. Prove the row's statement (the work); the ties are given (YtlahcemjknffnaaFmtTie.lean); close each card by the builder's one call (the guide's Derived/Test/ToyasCard.lean, 'card_holds'). Laid BY PROGRAM, IN A SANDBOX (cutbox-door.mjs). By AI agents, Wed Nov 11 2026. No macro, syntax, notation, axiom, sorry.
-/
import Derived.Test.YtlahcemjknffnaaFmtRows
import GoSem.ClaimSeven
namespace Go.Proofs.YtlahcemjknffnaaFmt
namespace Rows

/-- THE TOLD CARD OF 'n025_25.FnValidatePushAcceptsExactlyKnownStates'. -/
def fnValidatePushAcceptsExactlyKnownStatesCard : Claim7 := { stood := { row := fnValidatePushAcceptsExactlyKnownStatesRow, standIns := [], harness := (true, "7d92be3139745c7994673e2e51be0b069cbf11c1f56ce0ba1abf1621c0208059"), looks := false }, told := true, goes := false }
def FnValidatePushAcceptsExactlyKnownStatesToldSaid : Prop := Claim7.holds Tryf.pinned (.plain (OpenSpec.ofChange fnValidatePushAcceptsExactlyKnownStatesSpec)) fnValidatePushAcceptsExactlyKnownStatesCard
/-- ITS FALSE NEIGHBOUR. Refute it at one input. -/
def FnValidatePushAcceptsExactlyKnownStatesToldWrongFalsely : Prop := Claim7.holds Tryf.pinned (.plain (OpenSpec.ofChange fnValidatePushAcceptsExactlyKnownStatesWrong)) fnValidatePushAcceptsExactlyKnownStatesCard

/-- THE TOLD CARD OF 'n025_25.FnIncludeApplyRulesSplicesIncludedState'. -/
def fnIncludeApplyRulesSplicesIncludedStateCard : Claim7 := { stood := { row := fnIncludeApplyRulesSplicesIncludedStateRow, standIns := [], harness := (true, "7d92be3139745c7994673e2e51be0b069cbf11c1f56ce0ba1abf1621c0208059"), looks := false }, told := true, goes := false }
def FnIncludeApplyRulesSplicesIncludedStateToldSaid : Prop := Claim7.holds Tryf.pinned (.plain (OpenSpec.ofChange fnIncludeApplyRulesSplicesIncludedStateSpec)) fnIncludeApplyRulesSplicesIncludedStateCard
/-- ITS FALSE NEIGHBOUR. Refute it at one input. -/
def FnIncludeApplyRulesSplicesIncludedStateToldWrongFalsely : Prop := Claim7.holds Tryf.pinned (.plain (OpenSpec.ofChange fnIncludeApplyRulesSplicesIncludedStateWrong)) fnIncludeApplyRulesSplicesIncludedStateCard
end Rows
end Go.Proofs.YtlahcemjknffnaaFmt
