/-
  No cell of these rows narrows 'for every input' (looked for: loops, veiled, ifaces, maps, wideKeys, modest, calm, conditions, laid).
  DERIVED. THE GIVEN ROWS OF THIS SEAT. 3 by the template 'for every input the law returns true; each argument reads behind the call as it read before'; 0 by the template 'total and deterministic' (their statements: YtepncdnhcpencaaFmtTotals.lean).
  GIVEN WITH THE SEED: the statements are not yours to turn. If you find one false, say at which input.
  Laid BY PROGRAM, IN A SANDBOX (cutbox-rows.mjs): the forced cells as the released guide's own fill.sh prints them over the translation 1feca12020c12435… (all of the seat's roots in one cut). By AI agents, Wed Nov 11 2026. No macro, syntax, notation, axiom, sorry.
-/
import Derived.Test.YtepncdnhcpencaaFmtChecked
import GoSem.Claim
import GoSem.ClaimJoined
import GoSem.ClaimMapViews
import Derived.JoinedTies
import Derived.KernelRfl
namespace Go.Proofs.YtepncdnhcpencaaFmt
/- THE CELL 'sum', in the pinned program and in every row, IS THE sha256 OF THE DUMP (.gsa) THAT YtepncdnhcpencaaFmtProg.lean LOADS. Nothing in Lean hashes anything: it is a label: what it is worth is what the hold of that sum in a sandbox is worth. -/
noncomputable def Tryf.pinned : Pinned := { name := "ytepncdnhcpencaafmt", sum := "1feca12020c1243594e04b9a5283e05210dbffae24ffe454fa714db067e565e3", checked := Tryf.checked }
namespace Rows
def none {H : Type} : Left H := { results := [], args := [] }

/-- 'n025_17.FnPositionStringExact': WHATEVER THE INPUT: true; the input reads as it did. -/
def fnPositionStringExactSpec : ChangeSpec := { name := "fnPositionStringExact", fn := fun _ => fun
  | [d1, d2, d3, d4] => { results := [.lit (.bool true)], args := [d1, d2, d3, d4] }
  | _ => none }
def fnPositionStringExactRow : OpenClaim := { program := "ytepncdnhcpencaafmt", sum := "1feca12020c1243594e04b9a5283e05210dbffae24ffe454fa714db067e565e3", func := "github.com/alecthomas/participle/v2/n025_17.FnPositionStringExact", spec := "fnPositionStringExact", stops := ["fmt.Sprintf, its operands' methods called"], inPlace := ["fmt.Sprintf"], unfollowed := true, recurses := true, apart := false }
/-- NO THEOREM (fmt's text is open here; it may be false): for the released tool's asking of the row's closed facts alone. THE STATEMENT IS 'FnPositionStringExactToldSaid' (YtepncdnhcpencaaFmtCards.lean). -/
def FnPositionStringExactFormAsk : Prop := fnPositionStringExactRow.holds Tryf.pinned (OpenSpec.ofChange fnPositionStringExactSpec)

/-- ITS FALSE NEIGHBOUR: 'it returns false'. Refute it at one input. -/
def fnPositionStringExactWrong : ChangeSpec := { name := "fnPositionStringExact", fn := fun _ => fun
  | [d1, d2, d3, d4] => { results := [.lit (.bool false)], args := [d1, d2, d3, d4] }
  | _ => none }
def FnPositionStringExactWrongFormAsk : Prop := fnPositionStringExactRow.holds Tryf.pinned (OpenSpec.ofChange fnPositionStringExactWrong)

/-- 'n025_17.FnErrorfEscapedFormatRoundTrip': WHATEVER THE INPUT: true; the input reads as it did. -/
def fnErrorfEscapedFormatRoundTripSpec : ChangeSpec := { name := "fnErrorfEscapedFormatRoundTrip", fn := fun _ => fun
  | [d1, d2, d3, d4, d5] => { results := [.lit (.bool true)], args := [d1, d2, d3, d4, d5] }
  | _ => none }
def fnErrorfEscapedFormatRoundTripRow : OpenClaim := { program := "ytepncdnhcpencaafmt", sum := "1feca12020c1243594e04b9a5283e05210dbffae24ffe454fa714db067e565e3", func := "github.com/alecthomas/participle/v2/n025_17.FnErrorfEscapedFormatRoundTrip", spec := "fnErrorfEscapedFormatRoundTrip", stops := ["fmt.Sprintf, its operands' methods called"], inPlace := ["fmt.Sprintf"], unfollowed := true, recurses := true, apart := false }
/-- NO THEOREM (fmt's text is open here; it may be false): for the released tool's asking of the row's closed facts alone. THE STATEMENT IS 'FnErrorfEscapedFormatRoundTripToldSaid' (YtepncdnhcpencaaFmtCards.lean). -/
def FnErrorfEscapedFormatRoundTripFormAsk : Prop := fnErrorfEscapedFormatRoundTripRow.holds Tryf.pinned (OpenSpec.ofChange fnErrorfEscapedFormatRoundTripSpec)

/-- ITS FALSE NEIGHBOUR: 'it returns false'. Refute it at one input. -/
def fnErrorfEscapedFormatRoundTripWrong : ChangeSpec := { name := "fnErrorfEscapedFormatRoundTrip", fn := fun _ => fun
  | [d1, d2, d3, d4, d5] => { results := [.lit (.bool false)], args := [d1, d2, d3, d4, d5] }
  | _ => none }
def FnErrorfEscapedFormatRoundTripWrongFormAsk : Prop := fnErrorfEscapedFormatRoundTripRow.holds Tryf.pinned (OpenSpec.ofChange fnErrorfEscapedFormatRoundTripWrong)

/-- 'n025_17.FnErrorfPercentS': WHATEVER THE INPUT: true; the input reads as it did. -/
def fnErrorfPercentSSpec : ChangeSpec := { name := "fnErrorfPercentS", fn := fun _ => fun
  | [d1, d2, d3, d4, d5] => { results := [.lit (.bool true)], args := [d1, d2, d3, d4, d5] }
  | _ => none }
def fnErrorfPercentSRow : OpenClaim := { program := "ytepncdnhcpencaafmt", sum := "1feca12020c1243594e04b9a5283e05210dbffae24ffe454fa714db067e565e3", func := "github.com/alecthomas/participle/v2/n025_17.FnErrorfPercentS", spec := "fnErrorfPercentS", stops := ["fmt.Sprintf, its operands' methods called"], inPlace := ["fmt.Sprintf"], unfollowed := true, recurses := true, apart := false }
/-- NO THEOREM (fmt's text is open here; it may be false): for the released tool's asking of the row's closed facts alone. THE STATEMENT IS 'FnErrorfPercentSToldSaid' (YtepncdnhcpencaaFmtCards.lean). -/
def FnErrorfPercentSFormAsk : Prop := fnErrorfPercentSRow.holds Tryf.pinned (OpenSpec.ofChange fnErrorfPercentSSpec)

/-- ITS FALSE NEIGHBOUR: 'it returns false'. Refute it at one input. -/
def fnErrorfPercentSWrong : ChangeSpec := { name := "fnErrorfPercentS", fn := fun _ => fun
  | [d1, d2, d3, d4, d5] => { results := [.lit (.bool false)], args := [d1, d2, d3, d4, d5] }
  | _ => none }
def FnErrorfPercentSWrongFormAsk : Prop := fnErrorfPercentSRow.holds Tryf.pinned (OpenSpec.ofChange fnErrorfPercentSWrong)

end Rows
end Go.Proofs.YtepncdnhcpencaaFmt
