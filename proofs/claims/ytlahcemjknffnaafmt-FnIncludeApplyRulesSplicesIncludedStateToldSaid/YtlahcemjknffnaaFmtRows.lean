/-
  No cell of these rows narrows 'for every input' (looked for: loops, veiled, ifaces, maps, wideKeys, modest, calm, conditions, laid).
  DERIVED. THE GIVEN ROWS OF THIS SEAT. 2 by the template 'for every input the law returns true; each argument reads behind the call as it read before'; 0 by the template 'total and deterministic' (their statements: YtlahcemjknffnaaFmtTotals.lean).
  GIVEN WITH THE SEED: the statements are not yours to turn. If you find one false, say at which input.
  Laid BY PROGRAM, IN A SANDBOX (cutbox-rows.mjs): the forced cells as the released guide's own fill.sh prints them over the translation 07744a59a38619fd… (all of the seat's roots in one cut). By AI agents, Wed Nov 11 2026. No macro, syntax, notation, axiom, sorry.
-/
import Derived.Test.YtlahcemjknffnaaFmtChecked
import GoSem.Claim
import GoSem.ClaimJoined
import GoSem.ClaimMapViews
import Derived.JoinedTies
import Derived.KernelRfl
namespace Go.Proofs.YtlahcemjknffnaaFmt
/- THE CELL 'sum', in the pinned program and in every row, IS THE sha256 OF THE DUMP (.gsa) THAT YtlahcemjknffnaaFmtProg.lean LOADS. Nothing in Lean hashes anything: it is a label: what it is worth is what the hold of that sum in a sandbox is worth. -/
noncomputable def Tryf.pinned : Pinned := { name := "ytlahcemjknffnaafmt", sum := "07744a59a38619fd1a7e0948315aa575c3b158888e223944b32f25869a6a3ea6", checked := Tryf.checked }
namespace Rows
def none {H : Type} : Left H := { results := [], args := [] }

/-- 'n025_25.FnValidatePushAcceptsExactlyKnownStates': WHATEVER THE INPUT: true; the input reads as it did. -/
def fnValidatePushAcceptsExactlyKnownStatesSpec : ChangeSpec := { name := "fnValidatePushAcceptsExactlyKnownStates", fn := fun _ => fun
  | [d1, d2] => { results := [.lit (.bool true)], args := [d1, d2] }
  | _ => none }
def fnValidatePushAcceptsExactlyKnownStatesRow : OpenClaim := { program := "ytlahcemjknffnaafmt", sum := "07744a59a38619fd1a7e0948315aa575c3b158888e223944b32f25869a6a3ea6", func := "github.com/alecthomas/participle/v2/n025_25.FnValidatePushAcceptsExactlyKnownStates", spec := "fnValidatePushAcceptsExactlyKnownStates", stops := ["fmt.errorf"], inPlace := ["fmt.errorf"], apart := false }
/-- NO THEOREM (fmt's text is open here; it may be false): for the released tool's asking of the row's closed facts alone. THE STATEMENT IS 'FnValidatePushAcceptsExactlyKnownStatesToldSaid' (YtlahcemjknffnaaFmtCards.lean). -/
def FnValidatePushAcceptsExactlyKnownStatesFormAsk : Prop := fnValidatePushAcceptsExactlyKnownStatesRow.holds Tryf.pinned (OpenSpec.ofChange fnValidatePushAcceptsExactlyKnownStatesSpec)

/-- ITS FALSE NEIGHBOUR: 'it returns false'. Refute it at one input. -/
def fnValidatePushAcceptsExactlyKnownStatesWrong : ChangeSpec := { name := "fnValidatePushAcceptsExactlyKnownStates", fn := fun _ => fun
  | [d1, d2] => { results := [.lit (.bool false)], args := [d1, d2] }
  | _ => none }
def FnValidatePushAcceptsExactlyKnownStatesWrongFormAsk : Prop := fnValidatePushAcceptsExactlyKnownStatesRow.holds Tryf.pinned (OpenSpec.ofChange fnValidatePushAcceptsExactlyKnownStatesWrong)

/-- 'n025_25.FnIncludeApplyRulesSplicesIncludedState': WHATEVER THE INPUT: true; the input reads as it did. -/
def fnIncludeApplyRulesSplicesIncludedStateSpec : ChangeSpec := { name := "fnIncludeApplyRulesSplicesIncludedState", fn := fun _ => fun
  | [d1, d2, d3, d4, d5] => { results := [.lit (.bool true)], args := [d1, d2, d3, d4, d5] }
  | _ => none }
def fnIncludeApplyRulesSplicesIncludedStateRow : OpenClaim := { program := "ytlahcemjknffnaafmt", sum := "07744a59a38619fd1a7e0948315aa575c3b158888e223944b32f25869a6a3ea6", func := "github.com/alecthomas/participle/v2/n025_25.FnIncludeApplyRulesSplicesIncludedState", spec := "fnIncludeApplyRulesSplicesIncludedState", stops := ["fmt.errorf"], inPlace := ["fmt.errorf"], apart := false }
/-- NO THEOREM (fmt's text is open here; it may be false): for the released tool's asking of the row's closed facts alone. THE STATEMENT IS 'FnIncludeApplyRulesSplicesIncludedStateToldSaid' (YtlahcemjknffnaaFmtCards.lean). -/
def FnIncludeApplyRulesSplicesIncludedStateFormAsk : Prop := fnIncludeApplyRulesSplicesIncludedStateRow.holds Tryf.pinned (OpenSpec.ofChange fnIncludeApplyRulesSplicesIncludedStateSpec)

/-- ITS FALSE NEIGHBOUR: 'it returns false'. Refute it at one input. -/
def fnIncludeApplyRulesSplicesIncludedStateWrong : ChangeSpec := { name := "fnIncludeApplyRulesSplicesIncludedState", fn := fun _ => fun
  | [d1, d2, d3, d4, d5] => { results := [.lit (.bool false)], args := [d1, d2, d3, d4, d5] }
  | _ => none }
def FnIncludeApplyRulesSplicesIncludedStateWrongFormAsk : Prop := fnIncludeApplyRulesSplicesIncludedStateRow.holds Tryf.pinned (OpenSpec.ofChange fnIncludeApplyRulesSplicesIncludedStateWrong)

end Rows
end Go.Proofs.YtlahcemjknffnaaFmt
