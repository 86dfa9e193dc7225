/-
  No cell of these rows narrows 'for every input' (looked for: loops, veiled, ifaces, maps, wideKeys, modest, calm, conditions, laid).
  DERIVED. THE GIVEN ROWS OF THIS SEAT. 12 by the template 'for every input the law returns true; each argument reads behind the call as it read before'; 0 by the template 'total and deterministic' (their statements: YtnbpddcgpjjibaaTotals.lean).
  GIVEN WITH THE SEED: the statements are not yours to turn. If you find one false, say at which input.
  Laid BY PROGRAM, IN A SANDBOX (cutbox-rows.mjs): the forced cells as the released guide's own fill.sh prints them over the translation d0d9e3023b5d109a… (all of the seat's roots in one cut). By AI agents, Wed Nov 11 2026. No macro, syntax, notation, axiom, sorry.
-/
import Derived.Test.YtnbpddcgpjjibaaChecked
import GoSem.Claim
import GoSem.ClaimJoined
import GoSem.ClaimMapViews
import Derived.JoinedTies
import Derived.KernelRfl
namespace Go.Proofs.Ytnbpddcgpjjibaa
/- THE CELL 'sum', in the pinned program and in every row, IS THE sha256 OF THE DUMP (.gsa) THAT YtnbpddcgpjjibaaProg.lean LOADS. Nothing in Lean hashes anything: it is a label: what it is worth is what the hold of that sum in a sandbox is worth. -/
noncomputable def Try.pinned : Pinned := { name := "ytnbpddcgpjjibaa", sum := "d0d9e3023b5d109a34a063300c77fe9e8f2fb5a5222260e8eb2cd6aabd2e38bf", checked := Try.checked }
namespace Rows
def none {H : Type} : Left H := { results := [], args := [] }

/-- 'n025_15.FnRawCursorAfterNext': WHATEVER THE INPUT: true; the input reads as it did. -/
def fnRawCursorAfterNextSpec : ChangeSpec := { name := "fnRawCursorAfterNext", fn := fun _ => fun
  | [d1, d2, d3] => { results := [.lit (.bool true)], args := [d1, d2, d3] }
  | _ => none }
def fnRawCursorAfterNextRow : OpenClaim := { program := "ytnbpddcgpjjibaa", sum := "d0d9e3023b5d109a34a063300c77fe9e8f2fb5a5222260e8eb2cd6aabd2e38bf", func := "github.com/alecthomas/participle/v2/n025_15.FnRawCursorAfterNext", spec := "fnRawCursorAfterNext", apart := false }
def FnRawCursorAfterNextSaid : Prop := fnRawCursorAfterNextRow.holds Try.pinned (OpenSpec.ofChange fnRawCursorAfterNextSpec)

/-- ITS FALSE NEIGHBOUR: 'it returns false'. Refute it at one input. -/
def fnRawCursorAfterNextWrong : ChangeSpec := { name := "fnRawCursorAfterNext", fn := fun _ => fun
  | [d1, d2, d3] => { results := [.lit (.bool false)], args := [d1, d2, d3] }
  | _ => none }
def FnRawCursorAfterNextWrongFalsely : Prop := fnRawCursorAfterNextRow.holds Try.pinned (OpenSpec.ofChange fnRawCursorAfterNextWrong)

/-- 'n025_15.FnPeekIsNextVisible': WHATEVER THE INPUT: true; the input reads as it did. -/
def fnPeekIsNextVisibleSpec : ChangeSpec := { name := "fnPeekIsNextVisible", fn := fun _ => fun
  | [d1, d2, d3] => { results := [.lit (.bool true)], args := [d1, d2, d3] }
  | _ => none }
def fnPeekIsNextVisibleRow : OpenClaim := { program := "ytnbpddcgpjjibaa", sum := "d0d9e3023b5d109a34a063300c77fe9e8f2fb5a5222260e8eb2cd6aabd2e38bf", func := "github.com/alecthomas/participle/v2/n025_15.FnPeekIsNextVisible", spec := "fnPeekIsNextVisible", apart := false }
def FnPeekIsNextVisibleSaid : Prop := fnPeekIsNextVisibleRow.holds Try.pinned (OpenSpec.ofChange fnPeekIsNextVisibleSpec)

/-- ITS FALSE NEIGHBOUR: 'it returns false'. Refute it at one input. -/
def fnPeekIsNextVisibleWrong : ChangeSpec := { name := "fnPeekIsNextVisible", fn := fun _ => fun
  | [d1, d2, d3] => { results := [.lit (.bool false)], args := [d1, d2, d3] }
  | _ => none }
def FnPeekIsNextVisibleWrongFalsely : Prop := fnPeekIsNextVisibleRow.holds Try.pinned (OpenSpec.ofChange fnPeekIsNextVisibleWrong)

/-- 'n025_15.FnCursorCountsConsumed': WHATEVER THE INPUT: true; the input reads as it did. -/
def fnCursorCountsConsumedSpec : ChangeSpec := { name := "fnCursorCountsConsumed", fn := fun _ => fun
  | [d1, d2, d3] => { results := [.lit (.bool true)], args := [d1, d2, d3] }
  | _ => none }
def fnCursorCountsConsumedRow : OpenClaim := { program := "ytnbpddcgpjjibaa", sum := "d0d9e3023b5d109a34a063300c77fe9e8f2fb5a5222260e8eb2cd6aabd2e38bf", func := "github.com/alecthomas/participle/v2/n025_15.FnCursorCountsConsumed", spec := "fnCursorCountsConsumed", apart := false }
def FnCursorCountsConsumedSaid : Prop := fnCursorCountsConsumedRow.holds Try.pinned (OpenSpec.ofChange fnCursorCountsConsumedSpec)

/-- ITS FALSE NEIGHBOUR: 'it returns false'. Refute it at one input. -/
def fnCursorCountsConsumedWrong : ChangeSpec := { name := "fnCursorCountsConsumed", fn := fun _ => fun
  | [d1, d2, d3] => { results := [.lit (.bool false)], args := [d1, d2, d3] }
  | _ => none }
def FnCursorCountsConsumedWrongFalsely : Prop := fnCursorCountsConsumedRow.holds Try.pinned (OpenSpec.ofChange fnCursorCountsConsumedWrong)

/-- 'n025_15.FnRawCursorAfterFastForward': WHATEVER THE INPUT: true; the input reads as it did. -/
def fnRawCursorAfterFastForwardSpec : ChangeSpec := { name := "fnRawCursorAfterFastForward", fn := fun _ => fun
  | [d1, d2, d3, d4] => { results := [.lit (.bool true)], args := [d1, d2, d3, d4] }
  | _ => none }
def fnRawCursorAfterFastForwardRow : OpenClaim := { program := "ytnbpddcgpjjibaa", sum := "d0d9e3023b5d109a34a063300c77fe9e8f2fb5a5222260e8eb2cd6aabd2e38bf", func := "github.com/alecthomas/participle/v2/n025_15.FnRawCursorAfterFastForward", spec := "fnRawCursorAfterFastForward", apart := false }
def FnRawCursorAfterFastForwardSaid : Prop := fnRawCursorAfterFastForwardRow.holds Try.pinned (OpenSpec.ofChange fnRawCursorAfterFastForwardSpec)

/-- ITS FALSE NEIGHBOUR: 'it returns false'. Refute it at one input. -/
def fnRawCursorAfterFastForwardWrong : ChangeSpec := { name := "fnRawCursorAfterFastForward", fn := fun _ => fun
  | [d1, d2, d3, d4] => { results := [.lit (.bool false)], args := [d1, d2, d3, d4] }
  | _ => none }
def FnRawCursorAfterFastForwardWrongFalsely : Prop := fnRawCursorAfterFastForwardRow.holds Try.pinned (OpenSpec.ofChange fnRawCursorAfterFastForwardWrong)

/-- 'n025_15.FnPeekStableAndNextReturnsIt': WHATEVER THE INPUT: true; the input reads as it did. -/
def fnPeekStableAndNextReturnsItSpec : ChangeSpec := { name := "fnPeekStableAndNextReturnsIt", fn := fun _ => fun
  | [d1, d2, d3] => { results := [.lit (.bool true)], args := [d1, d2, d3] }
  | _ => none }
def fnPeekStableAndNextReturnsItRow : OpenClaim := { program := "ytnbpddcgpjjibaa", sum := "d0d9e3023b5d109a34a063300c77fe9e8f2fb5a5222260e8eb2cd6aabd2e38bf", func := "github.com/alecthomas/participle/v2/n025_15.FnPeekStableAndNextReturnsIt", spec := "fnPeekStableAndNextReturnsIt", apart := false }
def FnPeekStableAndNextReturnsItSaid : Prop := fnPeekStableAndNextReturnsItRow.holds Try.pinned (OpenSpec.ofChange fnPeekStableAndNextReturnsItSpec)

/-- ITS FALSE NEIGHBOUR: 'it returns false'. Refute it at one input. -/
def fnPeekStableAndNextReturnsItWrong : ChangeSpec := { name := "fnPeekStableAndNextReturnsIt", fn := fun _ => fun
  | [d1, d2, d3] => { results := [.lit (.bool false)], args := [d1, d2, d3] }
  | _ => none }
def FnPeekStableAndNextReturnsItWrongFalsely : Prop := fnPeekStableAndNextReturnsItRow.holds Try.pinned (OpenSpec.ofChange fnPeekStableAndNextReturnsItWrong)

/-- 'n025_15.FnRangeMatchesBuiltStream': WHATEVER THE INPUT: true; the input reads as it did. -/
def fnRangeMatchesBuiltStreamSpec : ChangeSpec := { name := "fnRangeMatchesBuiltStream", fn := fun _ => fun
  | [d1, d2, d3, d4, d5] => { results := [.lit (.bool true)], args := [d1, d2, d3, d4, d5] }
  | _ => none }
def fnRangeMatchesBuiltStreamRow : OpenClaim := { program := "ytnbpddcgpjjibaa", sum := "d0d9e3023b5d109a34a063300c77fe9e8f2fb5a5222260e8eb2cd6aabd2e38bf", func := "github.com/alecthomas/participle/v2/n025_15.FnRangeMatchesBuiltStream", spec := "fnRangeMatchesBuiltStream", apart := false }
def FnRangeMatchesBuiltStreamSaid : Prop := fnRangeMatchesBuiltStreamRow.holds Try.pinned (OpenSpec.ofChange fnRangeMatchesBuiltStreamSpec)

/-- ITS FALSE NEIGHBOUR: 'it returns false'. Refute it at one input. -/
def fnRangeMatchesBuiltStreamWrong : ChangeSpec := { name := "fnRangeMatchesBuiltStream", fn := fun _ => fun
  | [d1, d2, d3, d4, d5] => { results := [.lit (.bool false)], args := [d1, d2, d3, d4, d5] }
  | _ => none }
def FnRangeMatchesBuiltStreamWrongFalsely : Prop := fnRangeMatchesBuiltStreamRow.holds Try.pinned (OpenSpec.ofChange fnRangeMatchesBuiltStreamWrong)

/-- 'n025_15.FnRangeSplitsAtCursors': WHATEVER THE INPUT: true; the input reads as it did. -/
def fnRangeSplitsAtCursorsSpec : ChangeSpec := { name := "fnRangeSplitsAtCursors", fn := fun _ => fun
  | [d1, d2, d3] => { results := [.lit (.bool true)], args := [d1, d2, d3] }
  | _ => none }
def fnRangeSplitsAtCursorsRow : OpenClaim := { program := "ytnbpddcgpjjibaa", sum := "d0d9e3023b5d109a34a063300c77fe9e8f2fb5a5222260e8eb2cd6aabd2e38bf", func := "github.com/alecthomas/participle/v2/n025_15.FnRangeSplitsAtCursors", spec := "fnRangeSplitsAtCursors", apart := false }
def FnRangeSplitsAtCursorsSaid : Prop := fnRangeSplitsAtCursorsRow.holds Try.pinned (OpenSpec.ofChange fnRangeSplitsAtCursorsSpec)

/-- ITS FALSE NEIGHBOUR: 'it returns false'. Refute it at one input. -/
def fnRangeSplitsAtCursorsWrong : ChangeSpec := { name := "fnRangeSplitsAtCursors", fn := fun _ => fun
  | [d1, d2, d3] => { results := [.lit (.bool false)], args := [d1, d2, d3] }
  | _ => none }
def FnRangeSplitsAtCursorsWrongFalsely : Prop := fnRangeSplitsAtCursorsRow.holds Try.pinned (OpenSpec.ofChange fnRangeSplitsAtCursorsWrong)

/-- 'n025_4.FnFastForwardIdempotentAndComposes': WHATEVER THE INPUT: true; the input reads as it did. -/
def fnFastForwardIdempotentAndComposesSpec : ChangeSpec := { name := "fnFastForwardIdempotentAndComposes", fn := fun _ => fun
  | [d1, d2, d3, d4] => { results := [.lit (.bool true)], args := [d1, d2, d3, d4] }
  | _ => none }
def fnFastForwardIdempotentAndComposesRow : OpenClaim := { program := "ytnbpddcgpjjibaa", sum := "d0d9e3023b5d109a34a063300c77fe9e8f2fb5a5222260e8eb2cd6aabd2e38bf", func := "github.com/alecthomas/participle/v2/n025_4.FnFastForwardIdempotentAndComposes", spec := "fnFastForwardIdempotentAndComposes", apart := false }
def FnFastForwardIdempotentAndComposesSaid : Prop := fnFastForwardIdempotentAndComposesRow.holds Try.pinned (OpenSpec.ofChange fnFastForwardIdempotentAndComposesSpec)

/-- ITS FALSE NEIGHBOUR: 'it returns false'. Refute it at one input. -/
def fnFastForwardIdempotentAndComposesWrong : ChangeSpec := { name := "fnFastForwardIdempotentAndComposes", fn := fun _ => fun
  | [d1, d2, d3, d4] => { results := [.lit (.bool false)], args := [d1, d2, d3, d4] }
  | _ => none }
def FnFastForwardIdempotentAndComposesWrongFalsely : Prop := fnFastForwardIdempotentAndComposesRow.holds Try.pinned (OpenSpec.ofChange fnFastForwardIdempotentAndComposesWrong)

/-- 'n025_4.FnFastForwardLandsPastTarget': WHATEVER THE INPUT: true; the input reads as it did. -/
def fnFastForwardLandsPastTargetSpec : ChangeSpec := { name := "fnFastForwardLandsPastTarget", fn := fun _ => fun
  | [d1, d2, d3] => { results := [.lit (.bool true)], args := [d1, d2, d3] }
  | _ => none }
def fnFastForwardLandsPastTargetRow : OpenClaim := { program := "ytnbpddcgpjjibaa", sum := "d0d9e3023b5d109a34a063300c77fe9e8f2fb5a5222260e8eb2cd6aabd2e38bf", func := "github.com/alecthomas/participle/v2/n025_4.FnFastForwardLandsPastTarget", spec := "fnFastForwardLandsPastTarget", apart := false }
def FnFastForwardLandsPastTargetSaid : Prop := fnFastForwardLandsPastTargetRow.holds Try.pinned (OpenSpec.ofChange fnFastForwardLandsPastTargetSpec)

/-- ITS FALSE NEIGHBOUR: 'it returns false'. Refute it at one input. -/
def fnFastForwardLandsPastTargetWrong : ChangeSpec := { name := "fnFastForwardLandsPastTarget", fn := fun _ => fun
  | [d1, d2, d3] => { results := [.lit (.bool false)], args := [d1, d2, d3] }
  | _ => none }
def FnFastForwardLandsPastTargetWrongFalsely : Prop := fnFastForwardLandsPastTargetRow.holds Try.pinned (OpenSpec.ofChange fnFastForwardLandsPastTargetWrong)

/-- 'n025_4.FnFastForwardAgreesWithNext': WHATEVER THE INPUT: true; the input reads as it did. -/
def fnFastForwardAgreesWithNextSpec : ChangeSpec := { name := "fnFastForwardAgreesWithNext", fn := fun _ => fun
  | [d1, d2, d3] => { results := [.lit (.bool true)], args := [d1, d2, d3] }
  | _ => none }
def fnFastForwardAgreesWithNextRow : OpenClaim := { program := "ytnbpddcgpjjibaa", sum := "d0d9e3023b5d109a34a063300c77fe9e8f2fb5a5222260e8eb2cd6aabd2e38bf", func := "github.com/alecthomas/participle/v2/n025_4.FnFastForwardAgreesWithNext", spec := "fnFastForwardAgreesWithNext", apart := false }
def FnFastForwardAgreesWithNextSaid : Prop := fnFastForwardAgreesWithNextRow.holds Try.pinned (OpenSpec.ofChange fnFastForwardAgreesWithNextSpec)

/-- ITS FALSE NEIGHBOUR: 'it returns false'. Refute it at one input. -/
def fnFastForwardAgreesWithNextWrong : ChangeSpec := { name := "fnFastForwardAgreesWithNext", fn := fun _ => fun
  | [d1, d2, d3] => { results := [.lit (.bool false)], args := [d1, d2, d3] }
  | _ => none }
def FnFastForwardAgreesWithNextWrongFalsely : Prop := fnFastForwardAgreesWithNextRow.holds Try.pinned (OpenSpec.ofChange fnFastForwardAgreesWithNextWrong)

/-- 'n025_4.FnAdvanceToNonElidedFindsNearestStop': WHATEVER THE INPUT: true; the input reads as it did. -/
def fnAdvanceToNonElidedFindsNearestStopSpec : ChangeSpec := { name := "fnAdvanceToNonElidedFindsNearestStop", fn := fun _ => fun
  | [d1, d2, d3, d4, d5, d6] => { results := [.lit (.bool true)], args := [d1, d2, d3, d4, d5, d6] }
  | _ => none }
def fnAdvanceToNonElidedFindsNearestStopRow : OpenClaim := { program := "ytnbpddcgpjjibaa", sum := "d0d9e3023b5d109a34a063300c77fe9e8f2fb5a5222260e8eb2cd6aabd2e38bf", func := "github.com/alecthomas/participle/v2/n025_4.FnAdvanceToNonElidedFindsNearestStop", spec := "fnAdvanceToNonElidedFindsNearestStop", apart := false }
def FnAdvanceToNonElidedFindsNearestStopSaid : Prop := fnAdvanceToNonElidedFindsNearestStopRow.holds Try.pinned (OpenSpec.ofChange fnAdvanceToNonElidedFindsNearestStopSpec)

/-- ITS FALSE NEIGHBOUR: 'it returns false'. Refute it at one input. -/
def fnAdvanceToNonElidedFindsNearestStopWrong : ChangeSpec := { name := "fnAdvanceToNonElidedFindsNearestStop", fn := fun _ => fun
  | [d1, d2, d3, d4, d5, d6] => { results := [.lit (.bool false)], args := [d1, d2, d3, d4, d5, d6] }
  | _ => none }
def FnAdvanceToNonElidedFindsNearestStopWrongFalsely : Prop := fnAdvanceToNonElidedFindsNearestStopRow.holds Try.pinned (OpenSpec.ofChange fnAdvanceToNonElidedFindsNearestStopWrong)

/-- 'n025_4.FnNextEnumeratesVisibleTokens': WHATEVER THE INPUT: true; the input reads as it did. -/
def fnNextEnumeratesVisibleTokensSpec : ChangeSpec := { name := "fnNextEnumeratesVisibleTokens", fn := fun _ => fun
  | [d1, d2] => { results := [.lit (.bool true)], args := [d1, d2] }
  | _ => none }
def fnNextEnumeratesVisibleTokensRow : OpenClaim := { program := "ytnbpddcgpjjibaa", sum := "d0d9e3023b5d109a34a063300c77fe9e8f2fb5a5222260e8eb2cd6aabd2e38bf", func := "github.com/alecthomas/participle/v2/n025_4.FnNextEnumeratesVisibleTokens", spec := "fnNextEnumeratesVisibleTokens", apart := false }
def FnNextEnumeratesVisibleTokensSaid : Prop := fnNextEnumeratesVisibleTokensRow.holds Try.pinned (OpenSpec.ofChange fnNextEnumeratesVisibleTokensSpec)

/-- ITS FALSE NEIGHBOUR: 'it returns false'. Refute it at one input. -/
def fnNextEnumeratesVisibleTokensWrong : ChangeSpec := { name := "fnNextEnumeratesVisibleTokens", fn := fun _ => fun
  | [d1, d2] => { results := [.lit (.bool false)], args := [d1, d2] }
  | _ => none }
def FnNextEnumeratesVisibleTokensWrongFalsely : Prop := fnNextEnumeratesVisibleTokensRow.holds Try.pinned (OpenSpec.ofChange fnNextEnumeratesVisibleTokensWrong)

/- THE SECOND FORM. 'bulk': how many values and letters a reading holds, each counted each time it is reached (what is shared counts as often as it is met; a slice's spare places count too). A statement '..UptoSaid' is the law's where the arguments, and the package variables that the reading takes, are together of bulk at most 1048576: NARROWER than '..Said'. Prove '..Said' where nothing that the law and all that it calls make is longer than what came in: it says more and counts as full. Else prove '..UptoSaid'. A law counts once. -/
mutual
def uptoBulk {H : Type} : DataW H → Nat
  | .lit (.string bytes) => bytes.length + 1
  | .lit _ => 1
  | .nil => 1
  | .ptr d => uptoBulk d + 1
  | .slice elems spare => uptoBulkAll elems + uptoBulkAll spare + 1
  | .agg parts => uptoBulkAll parts + 1
  | .iface _ d => uptoBulk d + 1
  | .map entries => uptoBulkEntries entries + 1
  | .held _ => 1
def uptoBulkAll {H : Type} : List (DataW H) → Nat
  | [] => 0
  | d :: r => uptoBulk d + uptoBulkAll r
def uptoBulkEntries {H : Type} : List (Lit × DataW H) → Nat
  | [] => 0
  | x :: r => uptoBulkEntry x + uptoBulkEntries r
def uptoBulkEntry {H : Type} : Lit × DataW H → Nat
  | (.string bytes, d) => bytes.length + uptoBulk d + 1
  | (_, d) => uptoBulk d + 1
 end
def uptoSmall : (H : Type) → List (DataW H) → Bool := fun _ ds => decide (uptoBulkAll ds ≤ 1048576)
def OpenSpec.upto (s : _root_.Go.ChangeSpec) : _root_.Go.OpenSpec := { _root_.Go.OpenSpec.ofChange s with cond := some uptoSmall }

/-- 'n025_15.FnRawCursorAfterNext', WHERE WHAT IT READS IS OF BULK AT MOST 1048576: true; the input reads as it did. -/
def fnRawCursorAfterNextUptoRow : OpenClaim := { program := "ytnbpddcgpjjibaa", sum := "d0d9e3023b5d109a34a063300c77fe9e8f2fb5a5222260e8eb2cd6aabd2e38bf", func := "github.com/alecthomas/participle/v2/n025_15.FnRawCursorAfterNext", spec := "fnRawCursorAfterNext", apart := false, narrowed := true }
def FnRawCursorAfterNextUptoSaid : Prop := fnRawCursorAfterNextUptoRow.holds Try.pinned (OpenSpec.upto fnRawCursorAfterNextSpec)

/-- 'n025_15.FnPeekIsNextVisible', WHERE WHAT IT READS IS OF BULK AT MOST 1048576: true; the input reads as it did. -/
def fnPeekIsNextVisibleUptoRow : OpenClaim := { program := "ytnbpddcgpjjibaa", sum := "d0d9e3023b5d109a34a063300c77fe9e8f2fb5a5222260e8eb2cd6aabd2e38bf", func := "github.com/alecthomas/participle/v2/n025_15.FnPeekIsNextVisible", spec := "fnPeekIsNextVisible", apart := false, narrowed := true }
def FnPeekIsNextVisibleUptoSaid : Prop := fnPeekIsNextVisibleUptoRow.holds Try.pinned (OpenSpec.upto fnPeekIsNextVisibleSpec)

/-- 'n025_15.FnCursorCountsConsumed', WHERE WHAT IT READS IS OF BULK AT MOST 1048576: true; the input reads as it did. -/
def fnCursorCountsConsumedUptoRow : OpenClaim := { program := "ytnbpddcgpjjibaa", sum := "d0d9e3023b5d109a34a063300c77fe9e8f2fb5a5222260e8eb2cd6aabd2e38bf", func := "github.com/alecthomas/participle/v2/n025_15.FnCursorCountsConsumed", spec := "fnCursorCountsConsumed", apart := false, narrowed := true }
def FnCursorCountsConsumedUptoSaid : Prop := fnCursorCountsConsumedUptoRow.holds Try.pinned (OpenSpec.upto fnCursorCountsConsumedSpec)

/-- 'n025_15.FnRawCursorAfterFastForward', WHERE WHAT IT READS IS OF BULK AT MOST 1048576: true; the input reads as it did. -/
def fnRawCursorAfterFastForwardUptoRow : OpenClaim := { program := "ytnbpddcgpjjibaa", sum := "d0d9e3023b5d109a34a063300c77fe9e8f2fb5a5222260e8eb2cd6aabd2e38bf", func := "github.com/alecthomas/participle/v2/n025_15.FnRawCursorAfterFastForward", spec := "fnRawCursorAfterFastForward", apart := false, narrowed := true }
def FnRawCursorAfterFastForwardUptoSaid : Prop := fnRawCursorAfterFastForwardUptoRow.holds Try.pinned (OpenSpec.upto fnRawCursorAfterFastForwardSpec)

/-- 'n025_15.FnPeekStableAndNextReturnsIt', WHERE WHAT IT READS IS OF BULK AT MOST 1048576: true; the input reads as it did. -/
def fnPeekStableAndNextReturnsItUptoRow : OpenClaim := { program := "ytnbpddcgpjjibaa", sum := "d0d9e3023b5d109a34a063300c77fe9e8f2fb5a5222260e8eb2cd6aabd2e38bf", func := "github.com/alecthomas/participle/v2/n025_15.FnPeekStableAndNextReturnsIt", spec := "fnPeekStableAndNextReturnsIt", apart := false, narrowed := true }
def FnPeekStableAndNextReturnsItUptoSaid : Prop := fnPeekStableAndNextReturnsItUptoRow.holds Try.pinned (OpenSpec.upto fnPeekStableAndNextReturnsItSpec)

/-- 'n025_15.FnRangeMatchesBuiltStream', WHERE WHAT IT READS IS OF BULK AT MOST 1048576: true; the input reads as it did. -/
def fnRangeMatchesBuiltStreamUptoRow : OpenClaim := { program := "ytnbpddcgpjjibaa", sum := "d0d9e3023b5d109a34a063300c77fe9e8f2fb5a5222260e8eb2cd6aabd2e38bf", func := "github.com/alecthomas/participle/v2/n025_15.FnRangeMatchesBuiltStream", spec := "fnRangeMatchesBuiltStream", apart := false, narrowed := true }
def FnRangeMatchesBuiltStreamUptoSaid : Prop := fnRangeMatchesBuiltStreamUptoRow.holds Try.pinned (OpenSpec.upto fnRangeMatchesBuiltStreamSpec)

/-- 'n025_15.FnRangeSplitsAtCursors', WHERE WHAT IT READS IS OF BULK AT MOST 1048576: true; the input reads as it did. -/
def fnRangeSplitsAtCursorsUptoRow : OpenClaim := { program := "ytnbpddcgpjjibaa", sum := "d0d9e3023b5d109a34a063300c77fe9e8f2fb5a5222260e8eb2cd6aabd2e38bf", func := "github.com/alecthomas/participle/v2/n025_15.FnRangeSplitsAtCursors", spec := "fnRangeSplitsAtCursors", apart := false, narrowed := true }
def FnRangeSplitsAtCursorsUptoSaid : Prop := fnRangeSplitsAtCursorsUptoRow.holds Try.pinned (OpenSpec.upto fnRangeSplitsAtCursorsSpec)

/-- 'n025_4.FnFastForwardIdempotentAndComposes', WHERE WHAT IT READS IS OF BULK AT MOST 1048576: true; the input reads as it did. -/
def fnFastForwardIdempotentAndComposesUptoRow : OpenClaim := { program := "ytnbpddcgpjjibaa", sum := "d0d9e3023b5d109a34a063300c77fe9e8f2fb5a5222260e8eb2cd6aabd2e38bf", func := "github.com/alecthomas/participle/v2/n025_4.FnFastForwardIdempotentAndComposes", spec := "fnFastForwardIdempotentAndComposes", apart := false, narrowed := true }
def FnFastForwardIdempotentAndComposesUptoSaid : Prop := fnFastForwardIdempotentAndComposesUptoRow.holds Try.pinned (OpenSpec.upto fnFastForwardIdempotentAndComposesSpec)

/-- 'n025_4.FnFastForwardLandsPastTarget', WHERE WHAT IT READS IS OF BULK AT MOST 1048576: true; the input reads as it did. -/
def fnFastForwardLandsPastTargetUptoRow : OpenClaim := { program := "ytnbpddcgpjjibaa", sum := "d0d9e3023b5d109a34a063300c77fe9e8f2fb5a5222260e8eb2cd6aabd2e38bf", func := "github.com/alecthomas/participle/v2/n025_4.FnFastForwardLandsPastTarget", spec := "fnFastForwardLandsPastTarget", apart := false, narrowed := true }
def FnFastForwardLandsPastTargetUptoSaid : Prop := fnFastForwardLandsPastTargetUptoRow.holds Try.pinned (OpenSpec.upto fnFastForwardLandsPastTargetSpec)

/-- 'n025_4.FnFastForwardAgreesWithNext', WHERE WHAT IT READS IS OF BULK AT MOST 1048576: true; the input reads as it did. -/
def fnFastForwardAgreesWithNextUptoRow : OpenClaim := { program := "ytnbpddcgpjjibaa", sum := "d0d9e3023b5d109a34a063300c77fe9e8f2fb5a5222260e8eb2cd6aabd2e38bf", func := "github.com/alecthomas/participle/v2/n025_4.FnFastForwardAgreesWithNext", spec := "fnFastForwardAgreesWithNext", apart := false, narrowed := true }
def FnFastForwardAgreesWithNextUptoSaid : Prop := fnFastForwardAgreesWithNextUptoRow.holds Try.pinned (OpenSpec.upto fnFastForwardAgreesWithNextSpec)

/-- 'n025_4.FnAdvanceToNonElidedFindsNearestStop', WHERE WHAT IT READS IS OF BULK AT MOST 1048576: true; the input reads as it did. -/
def fnAdvanceToNonElidedFindsNearestStopUptoRow : OpenClaim := { program := "ytnbpddcgpjjibaa", sum := "d0d9e3023b5d109a34a063300c77fe9e8f2fb5a5222260e8eb2cd6aabd2e38bf", func := "github.com/alecthomas/participle/v2/n025_4.FnAdvanceToNonElidedFindsNearestStop", spec := "fnAdvanceToNonElidedFindsNearestStop", apart := false, narrowed := true }
def FnAdvanceToNonElidedFindsNearestStopUptoSaid : Prop := fnAdvanceToNonElidedFindsNearestStopUptoRow.holds Try.pinned (OpenSpec.upto fnAdvanceToNonElidedFindsNearestStopSpec)

/-- 'n025_4.FnNextEnumeratesVisibleTokens', WHERE WHAT IT READS IS OF BULK AT MOST 1048576: true; the input reads as it did. -/
def fnNextEnumeratesVisibleTokensUptoRow : OpenClaim := { program := "ytnbpddcgpjjibaa", sum := "d0d9e3023b5d109a34a063300c77fe9e8f2fb5a5222260e8eb2cd6aabd2e38bf", func := "github.com/alecthomas/participle/v2/n025_4.FnNextEnumeratesVisibleTokens", spec := "fnNextEnumeratesVisibleTokens", apart := false, narrowed := true }
def FnNextEnumeratesVisibleTokensUptoSaid : Prop := fnNextEnumeratesVisibleTokensUptoRow.holds Try.pinned (OpenSpec.upto fnNextEnumeratesVisibleTokensSpec)

end Rows
end Go.Proofs.Ytnbpddcgpjjibaa
