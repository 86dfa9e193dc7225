/-
  No cell of these rows narrows 'for every input' (looked for: loops, veiled, ifaces, maps, wideKeys, modest, calm, conditions, laid).
  DERIVED. THE GIVEN ROWS OF THIS SEAT. 3 by the template 'for every input the law returns true; each argument reads behind the call as it read before'; 0 by the template 'total and deterministic' (their statements: YtjgmknlkgpfpkaaTotals.lean).
  GIVEN WITH THE SEED: the statements are not yours to turn. If you find one false, say at which input.
  Laid BY PROGRAM, IN A SANDBOX (cutbox-rows.mjs): the forced cells as the released guide's own fill.sh prints them over the translation 2fb4e4242c859a0b… (all of the seat's roots in one cut). By AI agents, Wed Nov 11 2026. No macro, syntax, notation, axiom, sorry.
-/
import Derived.Test.YtjgmknlkgpfpkaaChecked
import GoSem.Claim
import GoSem.ClaimJoined
import GoSem.ClaimMapViews
import Derived.JoinedTies
import Derived.KernelRfl
namespace Go.Proofs.Ytjgmknlkgpfpkaa
/- THE CELL 'sum', in the pinned program and in every row, IS THE sha256 OF THE DUMP (.gsa) THAT YtjgmknlkgpfpkaaProg.lean LOADS. Nothing in Lean hashes anything: it is a label: what it is worth is what the hold of that sum in a sandbox is worth. -/
noncomputable def Try.pinned : Pinned := { name := "ytjgmknlkgpfpkaa", sum := "2fb4e4242c859a0b3bd029252540b23438fa6db6986a26cbefec001925cc97b5", checked := Try.checked }
namespace Rows
def none {H : Type} : Left H := { results := [], args := [] }

/-- 'n025_12.FnPopFuncUndoesPushFunc': WHATEVER THE INPUT: true; the input reads as it did. -/
def fnPopFuncUndoesPushFuncSpec : ChangeSpec := { name := "fnPopFuncUndoesPushFunc", fn := fun _ => fun
  | [d1, d2, d3, d4] => { results := [.lit (.bool true)], args := [d1, d2, d3, d4] }
  | _ => none }
def fnPopFuncUndoesPushFuncRow : OpenClaim := { program := "ytjgmknlkgpfpkaa", sum := "2fb4e4242c859a0b3bd029252540b23438fa6db6986a26cbefec001925cc97b5", func := "github.com/alecthomas/participle/v2/n025_12.FnPopFuncUndoesPushFunc", spec := "fnPopFuncUndoesPushFunc", unfollowed := true, recurses := true, apart := false }
def FnPopFuncUndoesPushFuncSaid : Prop := fnPopFuncUndoesPushFuncRow.holds Try.pinned (OpenSpec.ofChange fnPopFuncUndoesPushFuncSpec)

/-- ITS FALSE NEIGHBOUR: 'it returns false'. Refute it at one input. -/
def fnPopFuncUndoesPushFuncWrong : ChangeSpec := { name := "fnPopFuncUndoesPushFunc", fn := fun _ => fun
  | [d1, d2, d3, d4] => { results := [.lit (.bool false)], args := [d1, d2, d3, d4] }
  | _ => none }
def FnPopFuncUndoesPushFuncWrongFalsely : Prop := fnPopFuncUndoesPushFuncRow.holds Try.pinned (OpenSpec.ofChange fnPopFuncUndoesPushFuncWrong)

/-- 'n025_12.FnPopFuncAgreesWithActionPop': WHATEVER THE INPUT: true; the input reads as it did. -/
def fnPopFuncAgreesWithActionPopSpec : ChangeSpec := { name := "fnPopFuncAgreesWithActionPop", fn := fun _ => fun
  | [d1, d2, d3] => { results := [.lit (.bool true)], args := [d1, d2, d3] }
  | _ => none }
def fnPopFuncAgreesWithActionPopRow : OpenClaim := { program := "ytjgmknlkgpfpkaa", sum := "2fb4e4242c859a0b3bd029252540b23438fa6db6986a26cbefec001925cc97b5", func := "github.com/alecthomas/participle/v2/n025_12.FnPopFuncAgreesWithActionPop", spec := "fnPopFuncAgreesWithActionPop", unfollowed := true, recurses := true, apart := false }
def FnPopFuncAgreesWithActionPopSaid : Prop := fnPopFuncAgreesWithActionPopRow.holds Try.pinned (OpenSpec.ofChange fnPopFuncAgreesWithActionPopSpec)

/-- ITS FALSE NEIGHBOUR: 'it returns false'. Refute it at one input. -/
def fnPopFuncAgreesWithActionPopWrong : ChangeSpec := { name := "fnPopFuncAgreesWithActionPop", fn := fun _ => fun
  | [d1, d2, d3] => { results := [.lit (.bool false)], args := [d1, d2, d3] }
  | _ => none }
def FnPopFuncAgreesWithActionPopWrongFalsely : Prop := fnPopFuncAgreesWithActionPopRow.holds Try.pinned (OpenSpec.ofChange fnPopFuncAgreesWithActionPopWrong)

/-- 'n025_12.FnPushThenPopRestoresStack': WHATEVER THE INPUT: true; the input reads as it did. -/
def fnPushThenPopRestoresStackSpec : ChangeSpec := { name := "fnPushThenPopRestoresStack", fn := fun _ => fun
  | [d1, d2, d3, d4] => { results := [.lit (.bool true)], args := [d1, d2, d3, d4] }
  | _ => none }
def fnPushThenPopRestoresStackRow : OpenClaim := { program := "ytjgmknlkgpfpkaa", sum := "2fb4e4242c859a0b3bd029252540b23438fa6db6986a26cbefec001925cc97b5", func := "github.com/alecthomas/participle/v2/n025_12.FnPushThenPopRestoresStack", spec := "fnPushThenPopRestoresStack", apart := false }
def FnPushThenPopRestoresStackSaid : Prop := fnPushThenPopRestoresStackRow.holds Try.pinned (OpenSpec.ofChange fnPushThenPopRestoresStackSpec)

/-- ITS FALSE NEIGHBOUR: 'it returns false'. Refute it at one input. -/
def fnPushThenPopRestoresStackWrong : ChangeSpec := { name := "fnPushThenPopRestoresStack", fn := fun _ => fun
  | [d1, d2, d3, d4] => { results := [.lit (.bool false)], args := [d1, d2, d3, d4] }
  | _ => none }
def FnPushThenPopRestoresStackWrongFalsely : Prop := fnPushThenPopRestoresStackRow.holds Try.pinned (OpenSpec.ofChange fnPushThenPopRestoresStackWrong)

/- THE SECOND FORM. 'bulk': how many values and letters a reading holds, each counted each time it is reached (what is shared counts as often as it is met; a slice's spare places count too). A statement '..UptoSaid' is the law's where the arguments, and the package variables that the reading takes, are together of bulk at most 1048576: NARROWER than '..Said'. Prove '..Said' where nothing that the law and all that it calls make is longer than what came in: it says more and counts as full. Else prove '..UptoSaid'. A law counts once. -/
mutual
def uptoBulk {H : Type} : DataW H → Nat
  | .lit (.string bytes) => bytes.length + 1
  | .lit _ => 1
  | .nil => 1
  | .ptr d => uptoBulk d + 1
  | .slice elems spare => uptoBulkAll elems + uptoBulkAll spare + 1
  | .agg parts => uptoBulkAll parts + 1
  | .iface _ d => uptoBulk d + 1
  | .map entries => uptoBulkEntries entries + 1
  | .held _ => 1
def uptoBulkAll {H : Type} : List (DataW H) → Nat
  | [] => 0
  | d :: r => uptoBulk d + uptoBulkAll r
def uptoBulkEntries {H : Type} : List (Lit × DataW H) → Nat
  | [] => 0
  | x :: r => uptoBulkEntry x + uptoBulkEntries r
def uptoBulkEntry {H : Type} : Lit × DataW H → Nat
  | (.string bytes, d) => bytes.length + uptoBulk d + 1
  | (_, d) => uptoBulk d + 1
 end
def uptoSmall : (H : Type) → List (DataW H) → Bool := fun _ ds => decide (uptoBulkAll ds ≤ 1048576)
def OpenSpec.upto (s : _root_.Go.ChangeSpec) : _root_.Go.OpenSpec := { _root_.Go.OpenSpec.ofChange s with cond := some uptoSmall }

/-- 'n025_12.FnPopFuncUndoesPushFunc', WHERE WHAT IT READS IS OF BULK AT MOST 1048576: true; the input reads as it did. -/
def fnPopFuncUndoesPushFuncUptoRow : OpenClaim := { program := "ytjgmknlkgpfpkaa", sum := "2fb4e4242c859a0b3bd029252540b23438fa6db6986a26cbefec001925cc97b5", func := "github.com/alecthomas/participle/v2/n025_12.FnPopFuncUndoesPushFunc", spec := "fnPopFuncUndoesPushFunc", unfollowed := true, recurses := true, apart := false, narrowed := true }
def FnPopFuncUndoesPushFuncUptoSaid : Prop := fnPopFuncUndoesPushFuncUptoRow.holds Try.pinned (OpenSpec.upto fnPopFuncUndoesPushFuncSpec)

/-- 'n025_12.FnPopFuncAgreesWithActionPop', WHERE WHAT IT READS IS OF BULK AT MOST 1048576: true; the input reads as it did. -/
def fnPopFuncAgreesWithActionPopUptoRow : OpenClaim := { program := "ytjgmknlkgpfpkaa", sum := "2fb4e4242c859a0b3bd029252540b23438fa6db6986a26cbefec001925cc97b5", func := "github.com/alecthomas/participle/v2/n025_12.FnPopFuncAgreesWithActionPop", spec := "fnPopFuncAgreesWithActionPop", unfollowed := true, recurses := true, apart := false, narrowed := true }
def FnPopFuncAgreesWithActionPopUptoSaid : Prop := fnPopFuncAgreesWithActionPopUptoRow.holds Try.pinned (OpenSpec.upto fnPopFuncAgreesWithActionPopSpec)

/-- 'n025_12.FnPushThenPopRestoresStack', WHERE WHAT IT READS IS OF BULK AT MOST 1048576: true; the input reads as it did. -/
def fnPushThenPopRestoresStackUptoRow : OpenClaim := { program := "ytjgmknlkgpfpkaa", sum := "2fb4e4242c859a0b3bd029252540b23438fa6db6986a26cbefec001925cc97b5", func := "github.com/alecthomas/participle/v2/n025_12.FnPushThenPopRestoresStack", spec := "fnPushThenPopRestoresStack", apart := false, narrowed := true }
def FnPushThenPopRestoresStackUptoSaid : Prop := fnPushThenPopRestoresStackUptoRow.holds Try.pinned (OpenSpec.upto fnPushThenPopRestoresStackSpec)

end Rows
end Go.Proofs.Ytjgmknlkgpfpkaa
