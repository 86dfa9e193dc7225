/-
  No cell of these rows narrows 'for every input' (looked for: loops, veiled, ifaces, maps, wideKeys, modest, calm, conditions, laid).
  DERIVED. THE GIVEN ROWS OF THIS SEAT. 1 by the template 'for every input the law returns true; each argument reads behind the call as it read before'; 0 by the template 'total and deterministic' (their statements: YtaododnlaehaeaaFmtTotals.lean).
  GIVEN WITH THE SEED: the statements are not yours to turn. If you find one false, say at which input.
  Laid BY PROGRAM, IN A SANDBOX (cutbox-rows.mjs): the forced cells as the released guide's own fill.sh prints them over the translation 14e0cacfd7541dbf… (all of the seat's roots in one cut). By AI agents, Wed Nov 11 2026. No macro, syntax, notation, axiom, sorry.
-/
import Derived.Test.YtaododnlaehaeaaFmtChecked
import GoSem.Claim
import GoSem.ClaimJoined
import GoSem.ClaimMapViews
import Derived.JoinedTies
import Derived.KernelRfl
namespace Go.Proofs.YtaododnlaehaeaaFmt
/- THE CELL 'sum', in the pinned program and in every row, IS THE sha256 OF THE DUMP (.gsa) THAT YtaododnlaehaeaaFmtProg.lean LOADS. Nothing in Lean hashes anything: it is a label: what it is worth is what the hold of that sum in a sandbox is worth. -/
noncomputable def Tryf.pinned : Pinned := { name := "ytaododnlaehaeaafmt", sum := "14e0cacfd7541dbf8e636430250e07afb20b4dda8d5c21dff3483cb4e675b504", checked := Tryf.checked }
namespace Rows
def none {H : Type} : Left H := { results := [], args := [] }

/-- 'n025_8.FnReferenceGoStringInjectiveTypeFree': WHATEVER THE INPUT: true; the input reads as it did. -/
def fnReferenceGoStringInjectiveTypeFreeSpec : ChangeSpec := { name := "fnReferenceGoStringInjectiveTypeFree", fn := fun _ => fun
  | [d1, d2, d3, d4] => { results := [.lit (.bool true)], args := [d1, d2, d3, d4] }
  | _ => none }
def fnReferenceGoStringInjectiveTypeFreeRow : OpenClaim := { program := "ytaododnlaehaeaafmt", sum := "14e0cacfd7541dbf8e636430250e07afb20b4dda8d5c21dff3483cb4e675b504", func := "github.com/alecthomas/participle/v2/n025_8.FnReferenceGoStringInjectiveTypeFree", spec := "fnReferenceGoStringInjectiveTypeFree", stops := ["fmt.Sprintf"], inPlace := ["fmt.Sprintf"], apart := false }
/-- NO THEOREM (fmt's text is open here; it may be false): for the released tool's asking of the row's closed facts alone. THE STATEMENT IS 'FnReferenceGoStringInjectiveTypeFreeToldSaid' (YtaododnlaehaeaaFmtCards.lean). -/
def FnReferenceGoStringInjectiveTypeFreeFormAsk : Prop := fnReferenceGoStringInjectiveTypeFreeRow.holds Tryf.pinned (OpenSpec.ofChange fnReferenceGoStringInjectiveTypeFreeSpec)

/-- ITS FALSE NEIGHBOUR: 'it returns false'. Refute it at one input. -/
def fnReferenceGoStringInjectiveTypeFreeWrong : ChangeSpec := { name := "fnReferenceGoStringInjectiveTypeFree", fn := fun _ => fun
  | [d1, d2, d3, d4] => { results := [.lit (.bool false)], args := [d1, d2, d3, d4] }
  | _ => none }
def FnReferenceGoStringInjectiveTypeFreeWrongFormAsk : Prop := fnReferenceGoStringInjectiveTypeFreeRow.holds Tryf.pinned (OpenSpec.ofChange fnReferenceGoStringInjectiveTypeFreeWrong)

end Rows
end Go.Proofs.YtaododnlaehaeaaFmt
