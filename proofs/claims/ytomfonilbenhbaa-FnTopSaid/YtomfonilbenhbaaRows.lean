/-
  No cell of these rows narrows 'for every input' (looked for: loops, veiled, ifaces, maps, wideKeys, modest, calm, conditions, laid).
  DERIVED. THE GIVEN ROWS OF THIS SEAT. 11 by the template 'for every input the law returns true; each argument reads behind the call as it read before'; 0 by the template 'total and deterministic' (their statements: YtomfonilbenhbaaTotals.lean).
  GIVEN WITH THE SEED: the statements are not yours to turn. If you find one false, say at which input.
  Laid BY PROGRAM, IN A SANDBOX (cutbox-rows.mjs): the forced cells as the released guide's own fill.sh prints them over the translation 5e5e6d4099a86dd4… (all of the seat's roots in one cut). By AI agents, Wed Nov 11 2026. No macro, syntax, notation, axiom, sorry.
-/
import Derived.Test.YtomfonilbenhbaaChecked
import GoSem.Claim
import GoSem.ClaimJoined
import GoSem.ClaimMapViews
import Derived.JoinedTies
import Derived.KernelRfl
namespace Go.Proofs.Ytomfonilbenhbaa
/- THE CELL 'sum', in the pinned program and in every row, IS THE sha256 OF THE DUMP (.gsa) THAT YtomfonilbenhbaaProg.lean LOADS. Nothing in Lean hashes anything: it is a label: what it is worth is what the hold of that sum in a sandbox is worth. -/
noncomputable def Try.pinned : Pinned := { name := "ytomfonilbenhbaa", sum := "5e5e6d4099a86dd4be841f1ae002da8c2ccea8f651a1ee14254fabb935eb689b", checked := Try.checked }
namespace Rows
def none {H : Type} : Left H := { results := [], args := [] }

/-- 'n025_10.FnUpgradeStopsAtFirstError': WHATEVER THE INPUT: true; the input reads as it did. -/
def fnUpgradeStopsAtFirstErrorSpec : ChangeSpec := { name := "fnUpgradeStopsAtFirstError", fn := fun _ => fun
  | [d1, d2, d3] => { results := [.lit (.bool true)], args := [d1, d2, d3] }
  | _ => none }
def fnUpgradeStopsAtFirstErrorRow : OpenClaim := { program := "ytomfonilbenhbaa", sum := "5e5e6d4099a86dd4be841f1ae002da8c2ccea8f651a1ee14254fabb935eb689b", func := "github.com/alecthomas/participle/v2/n025_10.FnUpgradeStopsAtFirstError", spec := "fnUpgradeStopsAtFirstError", unfollowed := true, recurses := true, apart := false }
def FnUpgradeStopsAtFirstErrorSaid : Prop := fnUpgradeStopsAtFirstErrorRow.holds Try.pinned (OpenSpec.ofChange fnUpgradeStopsAtFirstErrorSpec)

/-- ITS FALSE NEIGHBOUR: 'it returns false'. Refute it at one input. -/
def fnUpgradeStopsAtFirstErrorWrong : ChangeSpec := { name := "fnUpgradeStopsAtFirstError", fn := fun _ => fun
  | [d1, d2, d3] => { results := [.lit (.bool false)], args := [d1, d2, d3] }
  | _ => none }
def FnUpgradeStopsAtFirstErrorWrongFalsely : Prop := fnUpgradeStopsAtFirstErrorRow.holds Try.pinned (OpenSpec.ofChange fnUpgradeStopsAtFirstErrorWrong)

/-- 'n025_10.FnUpgradeReplayExact': WHATEVER THE INPUT: true; the input reads as it did. -/
def fnUpgradeReplayExactSpec : ChangeSpec := { name := "fnUpgradeReplayExact", fn := fun _ => fun
  | [d1, d2] => { results := [.lit (.bool true)], args := [d1, d2] }
  | _ => none }
def fnUpgradeReplayExactRow : OpenClaim := { program := "ytomfonilbenhbaa", sum := "5e5e6d4099a86dd4be841f1ae002da8c2ccea8f651a1ee14254fabb935eb689b", func := "github.com/alecthomas/participle/v2/n025_10.FnUpgradeReplayExact", spec := "fnUpgradeReplayExact", unfollowed := true, recurses := true, apart := false }
def FnUpgradeReplayExactSaid : Prop := fnUpgradeReplayExactRow.holds Try.pinned (OpenSpec.ofChange fnUpgradeReplayExactSpec)

/-- ITS FALSE NEIGHBOUR: 'it returns false'. Refute it at one input. -/
def fnUpgradeReplayExactWrong : ChangeSpec := { name := "fnUpgradeReplayExact", fn := fun _ => fun
  | [d1, d2] => { results := [.lit (.bool false)], args := [d1, d2] }
  | _ => none }
def FnUpgradeReplayExactWrongFalsely : Prop := fnUpgradeReplayExactRow.holds Try.pinned (OpenSpec.ofChange fnUpgradeReplayExactWrong)

/-- 'n025_1001.FnTop': WHATEVER THE INPUT: true; the input reads as it did. -/
def fnTopSpec : ChangeSpec := { name := "fnTop", fn := fun _ => fun
  | [d] => { results := [.lit (.bool true)], args := [d] }
  | _ => none }
def fnTopRow : OpenClaim := { program := "ytomfonilbenhbaa", sum := "5e5e6d4099a86dd4be841f1ae002da8c2ccea8f651a1ee14254fabb935eb689b", func := "github.com/alecthomas/participle/v2/n025_1001.FnTop", spec := "fnTop", unfollowed := true, recurses := true, apart := false }
def FnTopSaid : Prop := fnTopRow.holds Try.pinned (OpenSpec.ofChange fnTopSpec)

/-- ITS FALSE NEIGHBOUR: 'it returns false'. Refute it at one input. -/
def fnTopWrong : ChangeSpec := { name := "fnTop", fn := fun _ => fun
  | [d] => { results := [.lit (.bool false)], args := [d] }
  | _ => none }
def FnTopWrongFalsely : Prop := fnTopRow.holds Try.pinned (OpenSpec.ofChange fnTopWrong)

/-- 'n025_9.FnRawPeekAfterSteps': WHATEVER THE INPUT: true; the input reads as it did. -/
def fnRawPeekAfterStepsSpec : ChangeSpec := { name := "fnRawPeekAfterSteps", fn := fun _ => fun
  | [d1, d2, d3, d4] => { results := [.lit (.bool true)], args := [d1, d2, d3, d4] }
  | _ => none }
def fnRawPeekAfterStepsRow : OpenClaim := { program := "ytomfonilbenhbaa", sum := "5e5e6d4099a86dd4be841f1ae002da8c2ccea8f651a1ee14254fabb935eb689b", func := "github.com/alecthomas/participle/v2/n025_9.FnRawPeekAfterSteps", spec := "fnRawPeekAfterSteps", apart := false }
def FnRawPeekAfterStepsSaid : Prop := fnRawPeekAfterStepsRow.holds Try.pinned (OpenSpec.ofChange fnRawPeekAfterStepsSpec)

/-- ITS FALSE NEIGHBOUR: 'it returns false'. Refute it at one input. -/
def fnRawPeekAfterStepsWrong : ChangeSpec := { name := "fnRawPeekAfterSteps", fn := fun _ => fun
  | [d1, d2, d3, d4] => { results := [.lit (.bool false)], args := [d1, d2, d3, d4] }
  | _ => none }
def FnRawPeekAfterStepsWrongFalsely : Prop := fnRawPeekAfterStepsRow.holds Try.pinned (OpenSpec.ofChange fnRawPeekAfterStepsWrong)

/-- 'n025_9.FnMakeCheckpointExact': WHATEVER THE INPUT: true; the input reads as it did. -/
def fnMakeCheckpointExactSpec : ChangeSpec := { name := "fnMakeCheckpointExact", fn := fun _ => fun
  | [d1, d2, d3, d4] => { results := [.lit (.bool true)], args := [d1, d2, d3, d4] }
  | _ => none }
def fnMakeCheckpointExactRow : OpenClaim := { program := "ytomfonilbenhbaa", sum := "5e5e6d4099a86dd4be841f1ae002da8c2ccea8f651a1ee14254fabb935eb689b", func := "github.com/alecthomas/participle/v2/n025_9.FnMakeCheckpointExact", spec := "fnMakeCheckpointExact", apart := false }
def FnMakeCheckpointExactSaid : Prop := fnMakeCheckpointExactRow.holds Try.pinned (OpenSpec.ofChange fnMakeCheckpointExactSpec)

/-- ITS FALSE NEIGHBOUR: 'it returns false'. Refute it at one input. -/
def fnMakeCheckpointExactWrong : ChangeSpec := { name := "fnMakeCheckpointExact", fn := fun _ => fun
  | [d1, d2, d3, d4] => { results := [.lit (.bool false)], args := [d1, d2, d3, d4] }
  | _ => none }
def FnMakeCheckpointExactWrongFalsely : Prop := fnMakeCheckpointExactRow.holds Try.pinned (OpenSpec.ofChange fnMakeCheckpointExactWrong)

/-- 'n025_9.FnLoadCheckpointReplay': WHATEVER THE INPUT: true; the input reads as it did. -/
def fnLoadCheckpointReplaySpec : ChangeSpec := { name := "fnLoadCheckpointReplay", fn := fun _ => fun
  | [d1, d2, d3, d4, d5] => { results := [.lit (.bool true)], args := [d1, d2, d3, d4, d5] }
  | _ => none }
def fnLoadCheckpointReplayRow : OpenClaim := { program := "ytomfonilbenhbaa", sum := "5e5e6d4099a86dd4be841f1ae002da8c2ccea8f651a1ee14254fabb935eb689b", func := "github.com/alecthomas/participle/v2/n025_9.FnLoadCheckpointReplay", spec := "fnLoadCheckpointReplay", apart := false }
def FnLoadCheckpointReplaySaid : Prop := fnLoadCheckpointReplayRow.holds Try.pinned (OpenSpec.ofChange fnLoadCheckpointReplaySpec)

/-- ITS FALSE NEIGHBOUR: 'it returns false'. Refute it at one input. -/
def fnLoadCheckpointReplayWrong : ChangeSpec := { name := "fnLoadCheckpointReplay", fn := fun _ => fun
  | [d1, d2, d3, d4, d5] => { results := [.lit (.bool false)], args := [d1, d2, d3, d4, d5] }
  | _ => none }
def FnLoadCheckpointReplayWrongFalsely : Prop := fnLoadCheckpointReplayRow.holds Try.pinned (OpenSpec.ofChange fnLoadCheckpointReplayWrong)

/-- 'n025_9.FnPeekAnyFastForward': WHATEVER THE INPUT: true; the input reads as it did. -/
def fnPeekAnyFastForwardSpec : ChangeSpec := { name := "fnPeekAnyFastForward", fn := fun _ => fun
  | [d1, d2, d3, d4, d5] => { results := [.lit (.bool true)], args := [d1, d2, d3, d4, d5] }
  | _ => none }
def fnPeekAnyFastForwardRow : OpenClaim := { program := "ytomfonilbenhbaa", sum := "5e5e6d4099a86dd4be841f1ae002da8c2ccea8f651a1ee14254fabb935eb689b", func := "github.com/alecthomas/participle/v2/n025_9.FnPeekAnyFastForward", spec := "fnPeekAnyFastForward", unfollowed := true, recurses := true, apart := false }
def FnPeekAnyFastForwardSaid : Prop := fnPeekAnyFastForwardRow.holds Try.pinned (OpenSpec.ofChange fnPeekAnyFastForwardSpec)

/-- ITS FALSE NEIGHBOUR: 'it returns false'. Refute it at one input. -/
def fnPeekAnyFastForwardWrong : ChangeSpec := { name := "fnPeekAnyFastForward", fn := fun _ => fun
  | [d1, d2, d3, d4, d5] => { results := [.lit (.bool false)], args := [d1, d2, d3, d4, d5] }
  | _ => none }
def FnPeekAnyFastForwardWrongFalsely : Prop := fnPeekAnyFastForwardRow.holds Try.pinned (OpenSpec.ofChange fnPeekAnyFastForwardWrong)

/-- 'n025_9.FnRawPeekThenPeek': WHATEVER THE INPUT: true; the input reads as it did. -/
def fnRawPeekThenPeekSpec : ChangeSpec := { name := "fnRawPeekThenPeek", fn := fun _ => fun
  | [d1, d2, d3, d4] => { results := [.lit (.bool true)], args := [d1, d2, d3, d4] }
  | _ => none }
def fnRawPeekThenPeekRow : OpenClaim := { program := "ytomfonilbenhbaa", sum := "5e5e6d4099a86dd4be841f1ae002da8c2ccea8f651a1ee14254fabb935eb689b", func := "github.com/alecthomas/participle/v2/n025_9.FnRawPeekThenPeek", spec := "fnRawPeekThenPeek", apart := false }
def FnRawPeekThenPeekSaid : Prop := fnRawPeekThenPeekRow.holds Try.pinned (OpenSpec.ofChange fnRawPeekThenPeekSpec)

/-- ITS FALSE NEIGHBOUR: 'it returns false'. Refute it at one input. -/
def fnRawPeekThenPeekWrong : ChangeSpec := { name := "fnRawPeekThenPeek", fn := fun _ => fun
  | [d1, d2, d3, d4] => { results := [.lit (.bool false)], args := [d1, d2, d3, d4] }
  | _ => none }
def FnRawPeekThenPeekWrongFalsely : Prop := fnRawPeekThenPeekRow.holds Try.pinned (OpenSpec.ofChange fnRawPeekThenPeekWrong)

/-- 'n025_9.FnMakeCheckpointSteps': WHATEVER THE INPUT: true; the input reads as it did. -/
def fnMakeCheckpointStepsSpec : ChangeSpec := { name := "fnMakeCheckpointSteps", fn := fun _ => fun
  | [d1, d2, d3, d4] => { results := [.lit (.bool true)], args := [d1, d2, d3, d4] }
  | _ => none }
def fnMakeCheckpointStepsRow : OpenClaim := { program := "ytomfonilbenhbaa", sum := "5e5e6d4099a86dd4be841f1ae002da8c2ccea8f651a1ee14254fabb935eb689b", func := "github.com/alecthomas/participle/v2/n025_9.FnMakeCheckpointSteps", spec := "fnMakeCheckpointSteps", apart := false }
def FnMakeCheckpointStepsSaid : Prop := fnMakeCheckpointStepsRow.holds Try.pinned (OpenSpec.ofChange fnMakeCheckpointStepsSpec)

/-- ITS FALSE NEIGHBOUR: 'it returns false'. Refute it at one input. -/
def fnMakeCheckpointStepsWrong : ChangeSpec := { name := "fnMakeCheckpointSteps", fn := fun _ => fun
  | [d1, d2, d3, d4] => { results := [.lit (.bool false)], args := [d1, d2, d3, d4] }
  | _ => none }
def FnMakeCheckpointStepsWrongFalsely : Prop := fnMakeCheckpointStepsRow.holds Try.pinned (OpenSpec.ofChange fnMakeCheckpointStepsWrong)

/-- 'n025_9.FnPeekAnyModel': WHATEVER THE INPUT: true; the input reads as it did. -/
def fnPeekAnyModelSpec : ChangeSpec := { name := "fnPeekAnyModel", fn := fun _ => fun
  | [d1, d2, d3, d4, d5] => { results := [.lit (.bool true)], args := [d1, d2, d3, d4, d5] }
  | _ => none }
def fnPeekAnyModelRow : OpenClaim := { program := "ytomfonilbenhbaa", sum := "5e5e6d4099a86dd4be841f1ae002da8c2ccea8f651a1ee14254fabb935eb689b", func := "github.com/alecthomas/participle/v2/n025_9.FnPeekAnyModel", spec := "fnPeekAnyModel", unfollowed := true, recurses := true, apart := false }
def FnPeekAnyModelSaid : Prop := fnPeekAnyModelRow.holds Try.pinned (OpenSpec.ofChange fnPeekAnyModelSpec)

/-- ITS FALSE NEIGHBOUR: 'it returns false'. Refute it at one input. -/
def fnPeekAnyModelWrong : ChangeSpec := { name := "fnPeekAnyModel", fn := fun _ => fun
  | [d1, d2, d3, d4, d5] => { results := [.lit (.bool false)], args := [d1, d2, d3, d4, d5] }
  | _ => none }
def FnPeekAnyModelWrongFalsely : Prop := fnPeekAnyModelRow.holds Try.pinned (OpenSpec.ofChange fnPeekAnyModelWrong)

/-- 'n025_9.FnLoadCheckpointLastWins': WHATEVER THE INPUT: true; the input reads as it did. -/
def fnLoadCheckpointLastWinsSpec : ChangeSpec := { name := "fnLoadCheckpointLastWins", fn := fun _ => fun
  | [d1, d2, d3, d4, d5] => { results := [.lit (.bool true)], args := [d1, d2, d3, d4, d5] }
  | _ => none }
def fnLoadCheckpointLastWinsRow : OpenClaim := { program := "ytomfonilbenhbaa", sum := "5e5e6d4099a86dd4be841f1ae002da8c2ccea8f651a1ee14254fabb935eb689b", func := "github.com/alecthomas/participle/v2/n025_9.FnLoadCheckpointLastWins", spec := "fnLoadCheckpointLastWins", apart := false }
def FnLoadCheckpointLastWinsSaid : Prop := fnLoadCheckpointLastWinsRow.holds Try.pinned (OpenSpec.ofChange fnLoadCheckpointLastWinsSpec)

/-- ITS FALSE NEIGHBOUR: 'it returns false'. Refute it at one input. -/
def fnLoadCheckpointLastWinsWrong : ChangeSpec := { name := "fnLoadCheckpointLastWins", fn := fun _ => fun
  | [d1, d2, d3, d4, d5] => { results := [.lit (.bool false)], args := [d1, d2, d3, d4, d5] }
  | _ => none }
def FnLoadCheckpointLastWinsWrongFalsely : Prop := fnLoadCheckpointLastWinsRow.holds Try.pinned (OpenSpec.ofChange fnLoadCheckpointLastWinsWrong)

/- THE SECOND FORM. 'bulk': how many values and letters a reading holds, each counted each time it is reached (what is shared counts as often as it is met; a slice's spare places count too). A statement '..UptoSaid' is the law's where the arguments, and the package variables that the reading takes, are together of bulk at most 1048576: NARROWER than '..Said'. Prove '..Said' where nothing that the law and all that it calls make is longer than what came in: it says more and counts as full. Else prove '..UptoSaid'. A law counts once. -/
mutual
def uptoBulk {H : Type} : DataW H → Nat
  | .lit (.string bytes) => bytes.length + 1
  | .lit _ => 1
  | .nil => 1
  | .ptr d => uptoBulk d + 1
  | .slice elems spare => uptoBulkAll elems + uptoBulkAll spare + 1
  | .agg parts => uptoBulkAll parts + 1
  | .iface _ d => uptoBulk d + 1
  | .map entries => uptoBulkEntries entries + 1
  | .held _ => 1
def uptoBulkAll {H : Type} : List (DataW H) → Nat
  | [] => 0
  | d :: r => uptoBulk d + uptoBulkAll r
def uptoBulkEntries {H : Type} : List (Lit × DataW H) → Nat
  | [] => 0
  | x :: r => uptoBulkEntry x + uptoBulkEntries r
def uptoBulkEntry {H : Type} : Lit × DataW H → Nat
  | (.string bytes, d) => bytes.length + uptoBulk d + 1
  | (_, d) => uptoBulk d + 1
 end
def uptoSmall : (H : Type) → List (DataW H) → Bool := fun _ ds => decide (uptoBulkAll ds ≤ 1048576)
def OpenSpec.upto (s : _root_.Go.ChangeSpec) : _root_.Go.OpenSpec := { _root_.Go.OpenSpec.ofChange s with cond := some uptoSmall }

/-- 'n025_10.FnUpgradeStopsAtFirstError', WHERE WHAT IT READS IS OF BULK AT MOST 1048576: true; the input reads as it did. -/
def fnUpgradeStopsAtFirstErrorUptoRow : OpenClaim := { program := "ytomfonilbenhbaa", sum := "5e5e6d4099a86dd4be841f1ae002da8c2ccea8f651a1ee14254fabb935eb689b", func := "github.com/alecthomas/participle/v2/n025_10.FnUpgradeStopsAtFirstError", spec := "fnUpgradeStopsAtFirstError", unfollowed := true, recurses := true, apart := false, narrowed := true }
def FnUpgradeStopsAtFirstErrorUptoSaid : Prop := fnUpgradeStopsAtFirstErrorUptoRow.holds Try.pinned (OpenSpec.upto fnUpgradeStopsAtFirstErrorSpec)

/-- 'n025_10.FnUpgradeReplayExact', WHERE WHAT IT READS IS OF BULK AT MOST 1048576: true; the input reads as it did. -/
def fnUpgradeReplayExactUptoRow : OpenClaim := { program := "ytomfonilbenhbaa", sum := "5e5e6d4099a86dd4be841f1ae002da8c2ccea8f651a1ee14254fabb935eb689b", func := "github.com/alecthomas/participle/v2/n025_10.FnUpgradeReplayExact", spec := "fnUpgradeReplayExact", unfollowed := true, recurses := true, apart := false, narrowed := true }
def FnUpgradeReplayExactUptoSaid : Prop := fnUpgradeReplayExactUptoRow.holds Try.pinned (OpenSpec.upto fnUpgradeReplayExactSpec)

/-- 'n025_1001.FnTop', WHERE WHAT IT READS IS OF BULK AT MOST 1048576: true; the input reads as it did. -/
def fnTopUptoRow : OpenClaim := { program := "ytomfonilbenhbaa", sum := "5e5e6d4099a86dd4be841f1ae002da8c2ccea8f651a1ee14254fabb935eb689b", func := "github.com/alecthomas/participle/v2/n025_1001.FnTop", spec := "fnTop", unfollowed := true, recurses := true, apart := false, narrowed := true }
def FnTopUptoSaid : Prop := fnTopUptoRow.holds Try.pinned (OpenSpec.upto fnTopSpec)

/-- 'n025_9.FnRawPeekAfterSteps', WHERE WHAT IT READS IS OF BULK AT MOST 1048576: true; the input reads as it did. -/
def fnRawPeekAfterStepsUptoRow : OpenClaim := { program := "ytomfonilbenhbaa", sum := "5e5e6d4099a86dd4be841f1ae002da8c2ccea8f651a1ee14254fabb935eb689b", func := "github.com/alecthomas/participle/v2/n025_9.FnRawPeekAfterSteps", spec := "fnRawPeekAfterSteps", apart := false, narrowed := true }
def FnRawPeekAfterStepsUptoSaid : Prop := fnRawPeekAfterStepsUptoRow.holds Try.pinned (OpenSpec.upto fnRawPeekAfterStepsSpec)

/-- 'n025_9.FnMakeCheckpointExact', WHERE WHAT IT READS IS OF BULK AT MOST 1048576: true; the input reads as it did. -/
def fnMakeCheckpointExactUptoRow : OpenClaim := { program := "ytomfonilbenhbaa", sum := "5e5e6d4099a86dd4be841f1ae002da8c2ccea8f651a1ee14254fabb935eb689b", func := "github.com/alecthomas/participle/v2/n025_9.FnMakeCheckpointExact", spec := "fnMakeCheckpointExact", apart := false, narrowed := true }
def FnMakeCheckpointExactUptoSaid : Prop := fnMakeCheckpointExactUptoRow.holds Try.pinned (OpenSpec.upto fnMakeCheckpointExactSpec)

/-- 'n025_9.FnLoadCheckpointReplay', WHERE WHAT IT READS IS OF BULK AT MOST 1048576: true; the input reads as it did. -/
def fnLoadCheckpointReplayUptoRow : OpenClaim := { program := "ytomfonilbenhbaa", sum := "5e5e6d4099a86dd4be841f1ae002da8c2ccea8f651a1ee14254fabb935eb689b", func := "github.com/alecthomas/participle/v2/n025_9.FnLoadCheckpointReplay", spec := "fnLoadCheckpointReplay", apart := false, narrowed := true }
def FnLoadCheckpointReplayUptoSaid : Prop := fnLoadCheckpointReplayUptoRow.holds Try.pinned (OpenSpec.upto fnLoadCheckpointReplaySpec)

/-- 'n025_9.FnPeekAnyFastForward', WHERE WHAT IT READS IS OF BULK AT MOST 1048576: true; the input reads as it did. -/
def fnPeekAnyFastForwardUptoRow : OpenClaim := { program := "ytomfonilbenhbaa", sum := "5e5e6d4099a86dd4be841f1ae002da8c2ccea8f651a1ee14254fabb935eb689b", func := "github.com/alecthomas/participle/v2/n025_9.FnPeekAnyFastForward", spec := "fnPeekAnyFastForward", unfollowed := true, recurses := true, apart := false, narrowed := true }
def FnPeekAnyFastForwardUptoSaid : Prop := fnPeekAnyFastForwardUptoRow.holds Try.pinned (OpenSpec.upto fnPeekAnyFastForwardSpec)

/-- 'n025_9.FnRawPeekThenPeek', WHERE WHAT IT READS IS OF BULK AT MOST 1048576: true; the input reads as it did. -/
def fnRawPeekThenPeekUptoRow : OpenClaim := { program := "ytomfonilbenhbaa", sum := "5e5e6d4099a86dd4be841f1ae002da8c2ccea8f651a1ee14254fabb935eb689b", func := "github.com/alecthomas/participle/v2/n025_9.FnRawPeekThenPeek", spec := "fnRawPeekThenPeek", apart := false, narrowed := true }
def FnRawPeekThenPeekUptoSaid : Prop := fnRawPeekThenPeekUptoRow.holds Try.pinned (OpenSpec.upto fnRawPeekThenPeekSpec)

/-- 'n025_9.FnMakeCheckpointSteps', WHERE WHAT IT READS IS OF BULK AT MOST 1048576: true; the input reads as it did. -/
def fnMakeCheckpointStepsUptoRow : OpenClaim := { program := "ytomfonilbenhbaa", sum := "5e5e6d4099a86dd4be841f1ae002da8c2ccea8f651a1ee14254fabb935eb689b", func := "github.com/alecthomas/participle/v2/n025_9.FnMakeCheckpointSteps", spec := "fnMakeCheckpointSteps", apart := false, narrowed := true }
def FnMakeCheckpointStepsUptoSaid : Prop := fnMakeCheckpointStepsUptoRow.holds Try.pinned (OpenSpec.upto fnMakeCheckpointStepsSpec)

/-- 'n025_9.FnPeekAnyModel', WHERE WHAT IT READS IS OF BULK AT MOST 1048576: true; the input reads as it did. -/
def fnPeekAnyModelUptoRow : OpenClaim := { program := "ytomfonilbenhbaa", sum := "5e5e6d4099a86dd4be841f1ae002da8c2ccea8f651a1ee14254fabb935eb689b", func := "github.com/alecthomas/participle/v2/n025_9.FnPeekAnyModel", spec := "fnPeekAnyModel", unfollowed := true, recurses := true, apart := false, narrowed := true }
def FnPeekAnyModelUptoSaid : Prop := fnPeekAnyModelUptoRow.holds Try.pinned (OpenSpec.upto fnPeekAnyModelSpec)

/-- 'n025_9.FnLoadCheckpointLastWins', WHERE WHAT IT READS IS OF BULK AT MOST 1048576: true; the input reads as it did. -/
def fnLoadCheckpointLastWinsUptoRow : OpenClaim := { program := "ytomfonilbenhbaa", sum := "5e5e6d4099a86dd4be841f1ae002da8c2ccea8f651a1ee14254fabb935eb689b", func := "github.com/alecthomas/participle/v2/n025_9.FnLoadCheckpointLastWins", spec := "fnLoadCheckpointLastWins", apart := false, narrowed := true }
def FnLoadCheckpointLastWinsUptoSaid : Prop := fnLoadCheckpointLastWinsUptoRow.holds Try.pinned (OpenSpec.upto fnLoadCheckpointLastWinsSpec)

end Rows
end Go.Proofs.Ytomfonilbenhbaa
