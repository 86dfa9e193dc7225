/-
  Three closed facts on the head of this seat's translation, shared by the seat's laws. Conditions: none.
-/
import Derived.Test.YtaododnlaehaeaaFmtRows
import Derived.JoinedOf
import Derived.KernelRfl
namespace Go.Proofs.YtaododnlaehaeaaFmt
/-- The signs of the translation's head, as numbers. -/
def headSigns : List Char := [104, 97, 114, 110, 101, 115, 115, 32, 51, 100, 48, 55, 49, 100, 98, 48, 98, 97, 99, 99, 98, 98, 53, 101, 51, 98, 98, 54, 57, 57, 57, 57, 101, 57, 56, 56, 49, 98, 98, 98, 48, 101, 56, 51, 53, 97, 54, 52, 102, 49, 100, 55, 56, 55, 51, 53, 49, 52, 50, 53, 57, 50, 52, 100, 51, 52, 52, 52, 48, 102, 55, 100, 32, 99, 117, 116, 32, 97, 116, 32, 103, 105, 116, 104, 117, 98, 46, 99, 111, 109, 47, 97, 108, 101, 99, 116, 104, 111, 109, 97, 115, 47, 112, 97, 114, 116, 105, 99, 105, 112, 108, 101, 47, 118, 50, 47, 110, 48, 50, 53, 95, 56, 46, 70, 110, 82, 101, 102, 101, 114, 101, 110, 99, 101, 71, 111, 83, 116, 114, 105, 110, 103, 73, 110, 106, 101, 99, 116, 105, 118, 101, 84, 121, 112, 101, 70, 114, 101, 101, 32, 115, 116, 111, 112, 32, 102, 109, 116, 46, 83, 112, 114, 105, 110, 116, 102].map Char.ofNat
theorem head_is : Tryf.prog.initOrder = String.ofList headSigns := by kernel_rfl
theorem head_list : Tryf.prog.initOrder.toList = headSigns := (congrArg String.toList head_is).trans String.toList_ofList
theorem factMake : Tryf.prog.make = some .cut := by
  rw [Program.make, head_list]
  kernel_rfl
theorem factMay : Tryf.prog.mayEnter = true := by
  rw [Program.mayEnter, head_list]
  kernel_rfl
theorem factLift : Tryf.prog.liftsFinal = false := by
  rw [Program.liftsFinal, Program.headLifts, head_list]
  kernel_rfl
end Go.Proofs.YtaododnlaehaeaaFmt
