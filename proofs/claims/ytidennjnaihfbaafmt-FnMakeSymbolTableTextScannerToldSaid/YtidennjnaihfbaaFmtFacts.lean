/-
  Three closed facts on the head of this seat's translation, shared by the seat's laws. Conditions: none.
-/
import Derived.Test.YtidennjnaihfbaaFmtRows
import Derived.JoinedOf
import Derived.KernelRfl
namespace Go.Proofs.YtidennjnaihfbaaFmt
/-- The signs of the translation's head, as numbers. -/
def headSigns : List Char := [104, 97, 114, 110, 101, 115, 115, 32, 101, 49, 55, 100, 55, 99, 102, 97, 51, 99, 56, 50, 52, 49, 56, 99, 49, 57, 50, 102, 50, 49, 98, 102, 54, 102, 101, 97, 100, 98, 101, 99, 100, 53, 56, 52, 52, 48, 98, 100, 49, 51, 49, 49, 48, 53, 99, 99, 101, 49, 51, 99, 48, 57, 101, 53, 100, 97, 57, 51, 56, 51, 49, 53, 32, 99, 117, 116, 32, 97, 116, 32, 103, 105, 116, 104, 117, 98, 46, 99, 111, 109, 47, 97, 108, 101, 99, 116, 104, 111, 109, 97, 115, 47, 112, 97, 114, 116, 105, 99, 105, 112, 108, 101, 47, 118, 50, 47, 110, 48, 50, 53, 95, 52, 50, 46, 70, 110, 84, 101, 120, 116, 83, 99, 97, 110, 110, 101, 114, 83, 121, 109, 98, 111, 108, 84, 97, 98, 108, 101, 65, 99, 99, 101, 112, 116, 115, 69, 120, 97, 99, 116, 108, 121, 69, 105, 103, 104, 116, 32, 103, 105, 116, 104, 117, 98, 46, 99, 111, 109, 47, 97, 108, 101, 99, 116, 104, 111, 109, 97, 115, 47, 112, 97, 114, 116, 105, 99, 105, 112, 108, 101, 47, 118, 50, 47, 110, 48, 50, 53, 95, 49, 55, 46, 70, 110, 77, 97, 107, 101, 83, 121, 109, 98, 111, 108, 84, 97, 98, 108, 101, 84, 101, 120, 116, 83, 99, 97, 110, 110, 101, 114, 32, 115, 116, 111, 112, 32, 102, 109, 116, 46, 101, 114, 114, 111, 114, 102].map Char.ofNat
theorem head_is : Tryf.prog.initOrder = String.ofList headSigns := by kernel_rfl
theorem head_list : Tryf.prog.initOrder.toList = headSigns := (congrArg String.toList head_is).trans String.toList_ofList
theorem factMake : Tryf.prog.make = some .cut := by
  rw [Program.make, head_list]
  kernel_rfl
theorem factMay : Tryf.prog.mayEnter = true := by
  rw [Program.mayEnter, head_list]
  kernel_rfl
theorem factLift : Tryf.prog.liftsFinal = false := by
  rw [Program.liftsFinal, Program.headLifts, head_list]
  kernel_rfl
end Go.Proofs.YtidennjnaihfbaaFmt
