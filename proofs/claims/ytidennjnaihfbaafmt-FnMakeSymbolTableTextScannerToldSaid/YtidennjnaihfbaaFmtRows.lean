/-
  No cell of these rows narrows 'for every input' (looked for: loops, veiled, ifaces, maps, wideKeys, modest, calm, conditions, laid).
  DERIVED. THE GIVEN ROWS OF THIS SEAT. 2 by the template 'for every input the law returns true; each argument reads behind the call as it read before'; 0 by the template 'total and deterministic' (their statements: YtidennjnaihfbaaFmtTotals.lean).
  GIVEN WITH THE SEED: the statements are not yours to turn. If you find one false, say at which input.
  Laid BY PROGRAM, IN A SANDBOX (cutbox-rows.mjs): the forced cells as the released guide's own fill.sh prints them over the translation 2f9a7eba32d7bc4a… (all of the seat's roots in one cut). By AI agents, Wed Nov 11 2026. No macro, syntax, notation, axiom, sorry.
-/
import Derived.Test.YtidennjnaihfbaaFmtChecked
import GoSem.Claim
import GoSem.ClaimJoined
import GoSem.ClaimMapViews
import Derived.JoinedTies
import Derived.KernelRfl
namespace Go.Proofs.YtidennjnaihfbaaFmt
/- THE CELL 'sum', in the pinned program and in every row, IS THE sha256 OF THE DUMP (.gsa) THAT YtidennjnaihfbaaFmtProg.lean LOADS. Nothing in Lean hashes anything: it is a label: what it is worth is what the hold of that sum in a sandbox is worth. -/
noncomputable def Tryf.pinned : Pinned := { name := "ytidennjnaihfbaafmt", sum := "2f9a7eba32d7bc4aabc20c4686733e770999de5837e683461cbf9e28f142b3c8", checked := Tryf.checked }
namespace Rows
def none {H : Type} : Left H := { results := [], args := [] }

/-- 'n025_42.FnTextScannerSymbolTableAcceptsExactlyEight': WHATEVER THE INPUT: true; the input reads as it did. -/
def fnTextScannerSymbolTableAcceptsExactlyEightSpec : ChangeSpec := { name := "fnTextScannerSymbolTableAcceptsExactlyEight", fn := fun _ => fun
  | [d] => { results := [.lit (.bool true)], args := [d] }
  | _ => none }
def fnTextScannerSymbolTableAcceptsExactlyEightRow : OpenClaim := { program := "ytidennjnaihfbaafmt", sum := "2f9a7eba32d7bc4aabc20c4686733e770999de5837e683461cbf9e28f142b3c8", func := "github.com/alecthomas/participle/v2/n025_42.FnTextScannerSymbolTableAcceptsExactlyEight", spec := "fnTextScannerSymbolTableAcceptsExactlyEight", stops := ["fmt.errorf"], inPlace := ["fmt.errorf"], unfollowed := true, recurses := true, apart := false }
/-- NO THEOREM (fmt's text is open here; it may be false): for the released tool's asking of the row's closed facts alone. THE STATEMENT IS 'FnTextScannerSymbolTableAcceptsExactlyEightToldSaid' (YtidennjnaihfbaaFmtCards.lean). -/
def FnTextScannerSymbolTableAcceptsExactlyEightFormAsk : Prop := fnTextScannerSymbolTableAcceptsExactlyEightRow.holds Tryf.pinned (OpenSpec.ofChange fnTextScannerSymbolTableAcceptsExactlyEightSpec)

/-- ITS FALSE NEIGHBOUR: 'it returns false'. Refute it at one input. -/
def fnTextScannerSymbolTableAcceptsExactlyEightWrong : ChangeSpec := { name := "fnTextScannerSymbolTableAcceptsExactlyEight", fn := fun _ => fun
  | [d] => { results := [.lit (.bool false)], args := [d] }
  | _ => none }
def FnTextScannerSymbolTableAcceptsExactlyEightWrongFormAsk : Prop := fnTextScannerSymbolTableAcceptsExactlyEightRow.holds Tryf.pinned (OpenSpec.ofChange fnTextScannerSymbolTableAcceptsExactlyEightWrong)

/-- 'n025_17.FnMakeSymbolTableTextScanner': WHATEVER THE INPUT: true; the input reads as it did. -/
def fnMakeSymbolTableTextScannerSpec : ChangeSpec := { name := "fnMakeSymbolTableTextScanner", fn := fun _ => fun
  | [d] => { results := [.lit (.bool true)], args := [d] }
  | _ => none }
def fnMakeSymbolTableTextScannerRow : OpenClaim := { program := "ytidennjnaihfbaafmt", sum := "2f9a7eba32d7bc4aabc20c4686733e770999de5837e683461cbf9e28f142b3c8", func := "github.com/alecthomas/participle/v2/n025_17.FnMakeSymbolTableTextScanner", spec := "fnMakeSymbolTableTextScanner", stops := ["fmt.errorf"], inPlace := ["fmt.errorf"], unfollowed := true, recurses := true, apart := false }
/-- NO THEOREM (fmt's text is open here; it may be false): for the released tool's asking of the row's closed facts alone. THE STATEMENT IS 'FnMakeSymbolTableTextScannerToldSaid' (YtidennjnaihfbaaFmtCards.lean). -/
def FnMakeSymbolTableTextScannerFormAsk : Prop := fnMakeSymbolTableTextScannerRow.holds Tryf.pinned (OpenSpec.ofChange fnMakeSymbolTableTextScannerSpec)

/-- ITS FALSE NEIGHBOUR: 'it returns false'. Refute it at one input. -/
def fnMakeSymbolTableTextScannerWrong : ChangeSpec := { name := "fnMakeSymbolTableTextScanner", fn := fun _ => fun
  | [d] => { results := [.lit (.bool false)], args := [d] }
  | _ => none }
def FnMakeSymbolTableTextScannerWrongFormAsk : Prop := fnMakeSymbolTableTextScannerRow.holds Tryf.pinned (OpenSpec.ofChange fnMakeSymbolTableTextScannerWrong)

end Rows
end Go.Proofs.YtidennjnaihfbaaFmt
