/-
  No cell of these rows narrows 'for every input' (looked for: loops, veiled, ifaces, maps, wideKeys, modest, calm, conditions, laid).
  DERIVED. THE GIVEN ROWS OF THIS SEAT. 7 by the template 'for every input the law returns true; each argument reads behind the call as it read before'; 0 by the template 'total and deterministic' (their statements: YtjneojglklbbfaaTotals.lean).
  GIVEN WITH THE SEED: the statements are not yours to turn. If you find one false, say at which input.
  Laid BY PROGRAM, IN A SANDBOX (cutbox-rows.mjs): the forced cells as the released guide's own fill.sh prints them over the translation ceb9ccad64653568… (all of the seat's roots in one cut). By AI agents, Wed Nov 11 2026. No macro, syntax, notation, axiom, sorry.
-/
import Derived.Test.YtjneojglklbbfaaChecked
import GoSem.Claim
import GoSem.ClaimJoined
import GoSem.ClaimMapViews
import Derived.JoinedTies
import Derived.KernelRfl
namespace Go.Proofs.Ytjneojglklbbfaa
/- THE CELL 'sum', in the pinned program and in every row, IS THE sha256 OF THE DUMP (.gsa) THAT YtjneojglklbbfaaProg.lean LOADS. Nothing in Lean hashes anything: it is a label: what it is worth is what the hold of that sum in a sandbox is worth. -/
noncomputable def Try.pinned : Pinned := { name := "ytjneojglklbbfaa", sum := "ceb9ccad646535685ba276130db9c60b2e97476ef9562eb73f1b0ba7e4d59b1e", checked := Try.checked }
namespace Rows
def none {H : Type} : Left H := { results := [], args := [] }

/-- 'n025_3.FnCapturePrintsBack': WHATEVER THE INPUT: true; the input reads as it did. -/
def fnCapturePrintsBackSpec : ChangeSpec := { name := "fnCapturePrintsBack", fn := fun _ => fun
  | [d] => { results := [.lit (.bool true)], args := [d] }
  | _ => none }
def fnCapturePrintsBackRow : OpenClaim := { program := "ytjneojglklbbfaa", sum := "ceb9ccad646535685ba276130db9c60b2e97476ef9562eb73f1b0ba7e4d59b1e", func := "github.com/alecthomas/participle/v2/n025_3.FnCapturePrintsBack", spec := "fnCapturePrintsBack", recurses := true, apart := false }
def FnCapturePrintsBackSaid : Prop := fnCapturePrintsBackRow.holds Try.pinned (OpenSpec.ofChange fnCapturePrintsBackSpec)

/-- ITS FALSE NEIGHBOUR: 'it returns false'. Refute it at one input. -/
def fnCapturePrintsBackWrong : ChangeSpec := { name := "fnCapturePrintsBack", fn := fun _ => fun
  | [d] => { results := [.lit (.bool false)], args := [d] }
  | _ => none }
def FnCapturePrintsBackWrongFalsely : Prop := fnCapturePrintsBackRow.holds Try.pinned (OpenSpec.ofChange fnCapturePrintsBackWrong)

/-- 'n025_5.FnSubExprBalancedOneBarPerSeparator': WHATEVER THE INPUT: true; the input reads as it did. -/
def fnSubExprBalancedOneBarPerSeparatorSpec : ChangeSpec := { name := "fnSubExprBalancedOneBarPerSeparator", fn := fun _ => fun
  | [d1, d2] => { results := [.lit (.bool true)], args := [d1, d2] }
  | _ => none }
def fnSubExprBalancedOneBarPerSeparatorRow : OpenClaim := { program := "ytjneojglklbbfaa", sum := "ceb9ccad646535685ba276130db9c60b2e97476ef9562eb73f1b0ba7e4d59b1e", func := "github.com/alecthomas/participle/v2/n025_5.FnSubExprBalancedOneBarPerSeparator", spec := "fnSubExprBalancedOneBarPerSeparator", recurses := true, apart := false }
def FnSubExprBalancedOneBarPerSeparatorSaid : Prop := fnSubExprBalancedOneBarPerSeparatorRow.holds Try.pinned (OpenSpec.ofChange fnSubExprBalancedOneBarPerSeparatorSpec)

/-- ITS FALSE NEIGHBOUR: 'it returns false'. Refute it at one input. -/
def fnSubExprBalancedOneBarPerSeparatorWrong : ChangeSpec := { name := "fnSubExprBalancedOneBarPerSeparator", fn := fun _ => fun
  | [d1, d2] => { results := [.lit (.bool false)], args := [d1, d2] }
  | _ => none }
def FnSubExprBalancedOneBarPerSeparatorWrongFalsely : Prop := fnSubExprBalancedOneBarPerSeparatorRow.holds Try.pinned (OpenSpec.ofChange fnSubExprBalancedOneBarPerSeparatorWrong)

/-- 'n025_6.FnSequenceStringSplitsAtConcatenation': WHATEVER THE INPUT: true; the input reads as it did. -/
def fnSequenceStringSplitsAtConcatenationSpec : ChangeSpec := { name := "fnSequenceStringSplitsAtConcatenation", fn := fun _ => fun
  | [d1, d2] => { results := [.lit (.bool true)], args := [d1, d2] }
  | _ => none }
def fnSequenceStringSplitsAtConcatenationRow : OpenClaim := { program := "ytjneojglklbbfaa", sum := "ceb9ccad646535685ba276130db9c60b2e97476ef9562eb73f1b0ba7e4d59b1e", func := "github.com/alecthomas/participle/v2/n025_6.FnSequenceStringSplitsAtConcatenation", spec := "fnSequenceStringSplitsAtConcatenation", recurses := true, apart := false }
def FnSequenceStringSplitsAtConcatenationSaid : Prop := fnSequenceStringSplitsAtConcatenationRow.holds Try.pinned (OpenSpec.ofChange fnSequenceStringSplitsAtConcatenationSpec)

/-- ITS FALSE NEIGHBOUR: 'it returns false'. Refute it at one input. -/
def fnSequenceStringSplitsAtConcatenationWrong : ChangeSpec := { name := "fnSequenceStringSplitsAtConcatenation", fn := fun _ => fun
  | [d1, d2] => { results := [.lit (.bool false)], args := [d1, d2] }
  | _ => none }
def FnSequenceStringSplitsAtConcatenationWrongFalsely : Prop := fnSequenceStringSplitsAtConcatenationRow.holds Try.pinned (OpenSpec.ofChange fnSequenceStringSplitsAtConcatenationWrong)

/-- 'n025_6.FnExpressionStringSplitsAtConcatenation': WHATEVER THE INPUT: true; the input reads as it did. -/
def fnExpressionStringSplitsAtConcatenationSpec : ChangeSpec := { name := "fnExpressionStringSplitsAtConcatenation", fn := fun _ => fun
  | [d1, d2] => { results := [.lit (.bool true)], args := [d1, d2] }
  | _ => none }
def fnExpressionStringSplitsAtConcatenationRow : OpenClaim := { program := "ytjneojglklbbfaa", sum := "ceb9ccad646535685ba276130db9c60b2e97476ef9562eb73f1b0ba7e4d59b1e", func := "github.com/alecthomas/participle/v2/n025_6.FnExpressionStringSplitsAtConcatenation", spec := "fnExpressionStringSplitsAtConcatenation", recurses := true, apart := false }
def FnExpressionStringSplitsAtConcatenationSaid : Prop := fnExpressionStringSplitsAtConcatenationRow.holds Try.pinned (OpenSpec.ofChange fnExpressionStringSplitsAtConcatenationSpec)

/-- ITS FALSE NEIGHBOUR: 'it returns false'. Refute it at one input. -/
def fnExpressionStringSplitsAtConcatenationWrong : ChangeSpec := { name := "fnExpressionStringSplitsAtConcatenation", fn := fun _ => fun
  | [d1, d2] => { results := [.lit (.bool false)], args := [d1, d2] }
  | _ => none }
def FnExpressionStringSplitsAtConcatenationWrongFalsely : Prop := fnExpressionStringSplitsAtConcatenationRow.holds Try.pinned (OpenSpec.ofChange fnExpressionStringSplitsAtConcatenationWrong)

/-- 'n025_6.FnTermStringNestedGroupsClosedForm': WHATEVER THE INPUT: true; the input reads as it did. -/
def fnTermStringNestedGroupsClosedFormSpec : ChangeSpec := { name := "fnTermStringNestedGroupsClosedForm", fn := fun _ => fun
  | [d1, d2, d3] => { results := [.lit (.bool true)], args := [d1, d2, d3] }
  | _ => none }
def fnTermStringNestedGroupsClosedFormRow : OpenClaim := { program := "ytjneojglklbbfaa", sum := "ceb9ccad646535685ba276130db9c60b2e97476ef9562eb73f1b0ba7e4d59b1e", func := "github.com/alecthomas/participle/v2/n025_6.FnTermStringNestedGroupsClosedForm", spec := "fnTermStringNestedGroupsClosedForm", recurses := true, apart := false }
def FnTermStringNestedGroupsClosedFormSaid : Prop := fnTermStringNestedGroupsClosedFormRow.holds Try.pinned (OpenSpec.ofChange fnTermStringNestedGroupsClosedFormSpec)

/-- ITS FALSE NEIGHBOUR: 'it returns false'. Refute it at one input. -/
def fnTermStringNestedGroupsClosedFormWrong : ChangeSpec := { name := "fnTermStringNestedGroupsClosedForm", fn := fun _ => fun
  | [d1, d2, d3] => { results := [.lit (.bool false)], args := [d1, d2, d3] }
  | _ => none }
def FnTermStringNestedGroupsClosedFormWrongFalsely : Prop := fnTermStringNestedGroupsClosedFormRow.holds Try.pinned (OpenSpec.ofChange fnTermStringNestedGroupsClosedFormWrong)

/-- 'n025_6.FnSequenceStringDecodesToTerms': WHATEVER THE INPUT: true; the input reads as it did. -/
def fnSequenceStringDecodesToTermsSpec : ChangeSpec := { name := "fnSequenceStringDecodesToTerms", fn := fun _ => fun
  | [d1, d2] => { results := [.lit (.bool true)], args := [d1, d2] }
  | _ => none }
def fnSequenceStringDecodesToTermsRow : OpenClaim := { program := "ytjneojglklbbfaa", sum := "ceb9ccad646535685ba276130db9c60b2e97476ef9562eb73f1b0ba7e4d59b1e", func := "github.com/alecthomas/participle/v2/n025_6.FnSequenceStringDecodesToTerms", spec := "fnSequenceStringDecodesToTerms", recurses := true, apart := false }
def FnSequenceStringDecodesToTermsSaid : Prop := fnSequenceStringDecodesToTermsRow.holds Try.pinned (OpenSpec.ofChange fnSequenceStringDecodesToTermsSpec)

/-- ITS FALSE NEIGHBOUR: 'it returns false'. Refute it at one input. -/
def fnSequenceStringDecodesToTermsWrong : ChangeSpec := { name := "fnSequenceStringDecodesToTerms", fn := fun _ => fun
  | [d1, d2] => { results := [.lit (.bool false)], args := [d1, d2] }
  | _ => none }
def FnSequenceStringDecodesToTermsWrongFalsely : Prop := fnSequenceStringDecodesToTermsRow.holds Try.pinned (OpenSpec.ofChange fnSequenceStringDecodesToTermsWrong)

/-- 'n025_6.FnExpressionStringDecodesToAlternatives': WHATEVER THE INPUT: true; the input reads as it did. -/
def fnExpressionStringDecodesToAlternativesSpec : ChangeSpec := { name := "fnExpressionStringDecodesToAlternatives", fn := fun _ => fun
  | [d] => { results := [.lit (.bool true)], args := [d] }
  | _ => none }
def fnExpressionStringDecodesToAlternativesRow : OpenClaim := { program := "ytjneojglklbbfaa", sum := "ceb9ccad646535685ba276130db9c60b2e97476ef9562eb73f1b0ba7e4d59b1e", func := "github.com/alecthomas/participle/v2/n025_6.FnExpressionStringDecodesToAlternatives", spec := "fnExpressionStringDecodesToAlternatives", recurses := true, apart := false }
def FnExpressionStringDecodesToAlternativesSaid : Prop := fnExpressionStringDecodesToAlternativesRow.holds Try.pinned (OpenSpec.ofChange fnExpressionStringDecodesToAlternativesSpec)

/-- ITS FALSE NEIGHBOUR: 'it returns false'. Refute it at one input. -/
def fnExpressionStringDecodesToAlternativesWrong : ChangeSpec := { name := "fnExpressionStringDecodesToAlternatives", fn := fun _ => fun
  | [d] => { results := [.lit (.bool false)], args := [d] }
  | _ => none }
def FnExpressionStringDecodesToAlternativesWrongFalsely : Prop := fnExpressionStringDecodesToAlternativesRow.holds Try.pinned (OpenSpec.ofChange fnExpressionStringDecodesToAlternativesWrong)

/- THE SECOND FORM. 'bulk': how many values and letters a reading holds, each counted each time it is reached (what is shared counts as often as it is met; a slice's spare places count too). A statement '..UptoSaid' is the law's where the arguments, and the package variables that the reading takes, are together of bulk at most 1048576: NARROWER than '..Said'. Prove '..Said' where nothing that the law and all that it calls make is longer than what came in: it says more and counts as full. Else prove '..UptoSaid'. A law counts once. -/
mutual
def uptoBulk {H : Type} : DataW H → Nat
  | .lit (.string bytes) => bytes.length + 1
  | .lit _ => 1
  | .nil => 1
  | .ptr d => uptoBulk d + 1
  | .slice elems spare => uptoBulkAll elems + uptoBulkAll spare + 1
  | .agg parts => uptoBulkAll parts + 1
  | .iface _ d => uptoBulk d + 1
  | .map entries => uptoBulkEntries entries + 1
  | .held _ => 1
def uptoBulkAll {H : Type} : List (DataW H) → Nat
  | [] => 0
  | d :: r => uptoBulk d + uptoBulkAll r
def uptoBulkEntries {H : Type} : List (Lit × DataW H) → Nat
  | [] => 0
  | x :: r => uptoBulkEntry x + uptoBulkEntries r
def uptoBulkEntry {H : Type} : Lit × DataW H → Nat
  | (.string bytes, d) => bytes.length + uptoBulk d + 1
  | (_, d) => uptoBulk d + 1
 end
def uptoSmall : (H : Type) → List (DataW H) → Bool := fun _ ds => decide (uptoBulkAll ds ≤ 1048576)
def OpenSpec.upto (s : _root_.Go.ChangeSpec) : _root_.Go.OpenSpec := { _root_.Go.OpenSpec.ofChange s with cond := some uptoSmall }

/-- 'n025_3.FnCapturePrintsBack', WHERE WHAT IT READS IS OF BULK AT MOST 1048576: true; the input reads as it did. -/
def fnCapturePrintsBackUptoRow : OpenClaim := { program := "ytjneojglklbbfaa", sum := "ceb9ccad646535685ba276130db9c60b2e97476ef9562eb73f1b0ba7e4d59b1e", func := "github.com/alecthomas/participle/v2/n025_3.FnCapturePrintsBack", spec := "fnCapturePrintsBack", recurses := true, apart := false, narrowed := true }
def FnCapturePrintsBackUptoSaid : Prop := fnCapturePrintsBackUptoRow.holds Try.pinned (OpenSpec.upto fnCapturePrintsBackSpec)

/-- 'n025_5.FnSubExprBalancedOneBarPerSeparator', WHERE WHAT IT READS IS OF BULK AT MOST 1048576: true; the input reads as it did. -/
def fnSubExprBalancedOneBarPerSeparatorUptoRow : OpenClaim := { program := "ytjneojglklbbfaa", sum := "ceb9ccad646535685ba276130db9c60b2e97476ef9562eb73f1b0ba7e4d59b1e", func := "github.com/alecthomas/participle/v2/n025_5.FnSubExprBalancedOneBarPerSeparator", spec := "fnSubExprBalancedOneBarPerSeparator", recurses := true, apart := false, narrowed := true }
def FnSubExprBalancedOneBarPerSeparatorUptoSaid : Prop := fnSubExprBalancedOneBarPerSeparatorUptoRow.holds Try.pinned (OpenSpec.upto fnSubExprBalancedOneBarPerSeparatorSpec)

/-- 'n025_6.FnSequenceStringSplitsAtConcatenation', WHERE WHAT IT READS IS OF BULK AT MOST 1048576: true; the input reads as it did. -/
def fnSequenceStringSplitsAtConcatenationUptoRow : OpenClaim := { program := "ytjneojglklbbfaa", sum := "ceb9ccad646535685ba276130db9c60b2e97476ef9562eb73f1b0ba7e4d59b1e", func := "github.com/alecthomas/participle/v2/n025_6.FnSequenceStringSplitsAtConcatenation", spec := "fnSequenceStringSplitsAtConcatenation", recurses := true, apart := false, narrowed := true }
def FnSequenceStringSplitsAtConcatenationUptoSaid : Prop := fnSequenceStringSplitsAtConcatenationUptoRow.holds Try.pinned (OpenSpec.upto fnSequenceStringSplitsAtConcatenationSpec)

/-- 'n025_6.FnExpressionStringSplitsAtConcatenation', WHERE WHAT IT READS IS OF BULK AT MOST 1048576: true; the input reads as it did. -/
def fnExpressionStringSplitsAtConcatenationUptoRow : OpenClaim := { program := "ytjneojglklbbfaa", sum := "ceb9ccad646535685ba276130db9c60b2e97476ef9562eb73f1b0ba7e4d59b1e", func := "github.com/alecthomas/participle/v2/n025_6.FnExpressionStringSplitsAtConcatenation", spec := "fnExpressionStringSplitsAtConcatenation", recurses := true, apart := false, narrowed := true }
def FnExpressionStringSplitsAtConcatenationUptoSaid : Prop := fnExpressionStringSplitsAtConcatenationUptoRow.holds Try.pinned (OpenSpec.upto fnExpressionStringSplitsAtConcatenationSpec)

/-- 'n025_6.FnTermStringNestedGroupsClosedForm', WHERE WHAT IT READS IS OF BULK AT MOST 1048576: true; the input reads as it did. -/
def fnTermStringNestedGroupsClosedFormUptoRow : OpenClaim := { program := "ytjneojglklbbfaa", sum := "ceb9ccad646535685ba276130db9c60b2e97476ef9562eb73f1b0ba7e4d59b1e", func := "github.com/alecthomas/participle/v2/n025_6.FnTermStringNestedGroupsClosedForm", spec := "fnTermStringNestedGroupsClosedForm", recurses := true, apart := false, narrowed := true }
def FnTermStringNestedGroupsClosedFormUptoSaid : Prop := fnTermStringNestedGroupsClosedFormUptoRow.holds Try.pinned (OpenSpec.upto fnTermStringNestedGroupsClosedFormSpec)

/-- 'n025_6.FnSequenceStringDecodesToTerms', WHERE WHAT IT READS IS OF BULK AT MOST 1048576: true; the input reads as it did. -/
def fnSequenceStringDecodesToTermsUptoRow : OpenClaim := { program := "ytjneojglklbbfaa", sum := "ceb9ccad646535685ba276130db9c60b2e97476ef9562eb73f1b0ba7e4d59b1e", func := "github.com/alecthomas/participle/v2/n025_6.FnSequenceStringDecodesToTerms", spec := "fnSequenceStringDecodesToTerms", recurses := true, apart := false, narrowed := true }
def FnSequenceStringDecodesToTermsUptoSaid : Prop := fnSequenceStringDecodesToTermsUptoRow.holds Try.pinned (OpenSpec.upto fnSequenceStringDecodesToTermsSpec)

/-- 'n025_6.FnExpressionStringDecodesToAlternatives', WHERE WHAT IT READS IS OF BULK AT MOST 1048576: true; the input reads as it did. -/
def fnExpressionStringDecodesToAlternativesUptoRow : OpenClaim := { program := "ytjneojglklbbfaa", sum := "ceb9ccad646535685ba276130db9c60b2e97476ef9562eb73f1b0ba7e4d59b1e", func := "github.com/alecthomas/participle/v2/n025_6.FnExpressionStringDecodesToAlternatives", spec := "fnExpressionStringDecodesToAlternatives", recurses := true, apart := false, narrowed := true }
def FnExpressionStringDecodesToAlternativesUptoSaid : Prop := fnExpressionStringDecodesToAlternativesUptoRow.holds Try.pinned (OpenSpec.upto fnExpressionStringDecodesToAlternativesSpec)

end Rows
end Go.Proofs.Ytjneojglklbbfaa
