/-
  fmt's stop at this seat: closed facts for the one format of validate; the contract of fmt.Errorf there. Conditions: F answers the tape.
-/
import Derived.Test.YtlahcemjknffnaaFmtRows
import Derived.Test.YtlahcemjknffnaaFmtKit
import Derived.WalkKit
import Derived.WalkSpells
import Derived.WalkLawsBesides
import Derived.Stop.CallBack
import Derived.Stop.IfaceNil
import GoSem.ClaimData
import Derived.Maps.OwnSet
import Derived.StringKeys
namespace Go.Proofs.YtlahcemjknffnaaFmt
open Go.RowKit Go.Extern.Stop Go.Stop Go.Extern
set_option linter.unusedSimpArgs false
set_option linter.unusedVariables false
theorem stop_call (args : Array Value) (w : World) : (callFunc 16 args).run Tryf.prog w = ((FmtStop.errorf #[9, 55] #[29] args).run Tryf.prog w).andThen fun v w' => .ok (.value v) w' :=
  run_callFunc_extern Tryf.func16 (by kernel_rfl) (by kernel_rfl) (by kernel_rfl) (by kernel_rfl) args w
theorem stop_guard (name : String) (w : World) : (FmtStop.guard name).run Tryf.prog w = .ok () w := by kernel_rfl
theorem pfmt0 : FmtStop.printed? ⟨#[108, 101, 120, 101, 114, 58, 32, 112, 117, 115, 104, 32, 116, 111, 32, 117, 110, 107, 110, 111, 119, 110, 32, 115, 116, 97, 116, 101, 32, 37, 113]⟩ 1 = some [(0, 113, false)] := by kernel_rfl
theorem pfmt0r (w : World) : (FmtDoors.printed ⟨#[108, 101, 120, 101, 114, 58, 32, 112, 117, 115, 104, 32, 116, 111, 32, 117, 110, 107, 110, 111, 119, 110, 32, 115, 116, 97, 116, 101, 32, 37, 113]⟩ 1).run Tryf.prog w = .ok [(0, 113, false)] w := by kernel_rfl
theorem pfmt1 : FmtStop.printed? ⟨#[108, 101, 120, 101, 114, 58, 32, 112, 117, 115, 104, 32, 116, 111, 32, 117, 110, 107, 110, 111, 119, 110, 32, 115, 116, 97, 116, 101, 32, 37, 113]⟩ 0 = some [] := by kernel_rfl
theorem pfmt1r (w : World) : (FmtDoors.printed ⟨#[108, 101, 120, 101, 114, 58, 32, 112, 117, 115, 104, 32, 116, 111, 32, 117, 110, 107, 110, 111, 119, 110, 32, 115, 116, 97, 116, 101, 32, 37, 113]⟩ 0).run Tryf.prog w = .ok [] w := by kernel_rfl
def shapeS : List UInt8 := [12, 6, 0, 0, 0, 0, 0, 0, 0, 115, 116, 114, 105, 110, 103]
theorem opS_118 (name : String) (x : ByteArray) (w : World) : (FmtStop.operand name false 118 false (.iface 9 (.string x))).run Tryf.prog w = .ok (shapeS, FmtStop.pack x.data.toList) w := by kernel_rfl
theorem opS_113 (name : String) (x : ByteArray) (w : World) : (FmtStop.operand name false 113 false (.iface 9 (.string x))).run Tryf.prog w = .ok (shapeS, FmtStop.pack x.data.toList) w := by kernel_rfl
theorem opS_118w (name : String) (x : ByteArray) (w : World) : (FmtStop.operand name true 118 false (.iface 9 (.string x))).run Tryf.prog w = .ok (shapeS, FmtStop.pack x.data.toList) w := by kernel_rfl
theorem opS_113w (name : String) (x : ByteArray) (w : World) : (FmtStop.operand name true 113 false (.iface 9 (.string x))).run Tryf.prog w = .ok (shapeS, FmtStop.pack x.data.toList) w := by kernel_rfl
theorem strictS (name : String) (x : ByteArray) (w : World) : (FmtStop.strict name (.iface 9 (.string x))).run Tryf.prog w = .ok (shapeS, FmtStop.pack x.data.toList) w := by kernel_rfl
theorem ptrES (w : World) : (FmtStop.ptrTo "errors.errorString").run Tryf.prog w = .ok 58 w := by kernel_rfl
theorem elemES (w : World) : (elemOf 58).run Tryf.prog w = .ok 60 w := by kernel_rfl
theorem isErrES (w : World) : (FmtDoors.textMethod 58 "Error").run Tryf.prog w = .ok true w := by kernel_rfl
attribute [go_sem] stop_call stop_guard pfmt0 pfmt0r pfmt1 pfmt1r opS_118 opS_113 opS_118w opS_113w strictS ptrES elemES isErrES
set_option maxHeartbeats 2000000 in
set_option maxRecDepth 100000 in
theorem errorf_any (F : Interp) (s : ByteArray) (b : Nat) (w : World) (hF : F.answers w.tape) (hc : w.cell? ⟨b, 0, none⟩ = some (.iface 9 (.string s))) (hz : w.heap[b]? = some (.cells #[.iface 9 (.string s)] 20 (0, 0))) :
    Calls Tryf.prog 15 #[.string ⟨#[108, 101, 120, 101, 114, 58, 32, 112, 117, 115, 104, 32, 116, 111, 32, 117, 110, 107, 110, 111, 119, 110, 32, 115, 116, 97, 116, 101, 32, 37, 113]⟩, .slice (some ⟨b, 0, none⟩) 1 1] w fun e w' =>
      ∃ p, e = .returned (.iface 58 (.pointer (some ⟨p, 0, none⟩))) ∧ Below w.heap.size w w' := by
  have hF' := answers_open hF
  go_enter Tryf.func15, Tryf.ntmps15
  go_wp2_with fail
  go_ret
  exact ⟨_, rfl, ((Below.refl _ _).alloc (Nat.le_refl _) _).drew⟩
end Go.Proofs.YtlahcemjknffnaaFmt
