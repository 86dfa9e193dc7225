/-
  Three closed facts on the head of this seat's translation, shared by the seat's laws. Conditions: none.
-/
import Derived.Test.YtlahcemjknffnaaFmtRows
import Derived.JoinedOf
import Derived.KernelRfl
namespace Go.Proofs.YtlahcemjknffnaaFmt
/-- The signs of the translation's head, as numbers. -/
def headSigns : List Char := [104, 97, 114, 110, 101, 115, 115, 32, 55, 100, 57, 50, 98, 101, 51, 49, 51, 57, 55, 52, 53, 99, 55, 57, 57, 52, 54, 55, 51, 101, 50, 101, 53, 49, 98, 101, 48, 98, 48, 54, 57, 99, 98, 102, 49, 49, 99, 49, 102, 53, 54, 99, 101, 48, 98, 97, 49, 97, 98, 102, 49, 54, 50, 49, 99, 48, 50, 48, 56, 48, 53, 57, 32, 99, 117, 116, 32, 97, 116, 32, 103, 105, 116, 104, 117, 98, 46, 99, 111, 109, 47, 97, 108, 101, 99, 116, 104, 111, 109, 97, 115, 47, 112, 97, 114, 116, 105, 99, 105, 112, 108, 101, 47, 118, 50, 47, 110, 48, 50, 53, 95, 50, 53, 46, 70, 110, 86, 97, 108, 105, 100, 97, 116, 101, 80, 117, 115, 104, 65, 99, 99, 101, 112, 116, 115, 69, 120, 97, 99, 116, 108, 121, 75, 110, 111, 119, 110, 83, 116, 97, 116, 101, 115, 32, 103, 105, 116, 104, 117, 98, 46, 99, 111, 109, 47, 97, 108, 101, 99, 116, 104, 111, 109, 97, 115, 47, 112, 97, 114, 116, 105, 99, 105, 112, 108, 101, 47, 118, 50, 47, 110, 48, 50, 53, 95, 50, 53, 46, 70, 110, 73, 110, 99, 108, 117, 100, 101, 65, 112, 112, 108, 121, 82, 117, 108, 101, 115, 83, 112, 108, 105, 99, 101, 115, 73, 110, 99, 108, 117, 100, 101, 100, 83, 116, 97, 116, 101, 32, 115, 116, 111, 112, 32, 102, 109, 116, 46, 101, 114, 114, 111, 114, 102].map Char.ofNat
theorem head_is : Tryf.prog.initOrder = String.ofList headSigns := by kernel_rfl
theorem head_list : Tryf.prog.initOrder.toList = headSigns := (congrArg String.toList head_is).trans String.toList_ofList
theorem factMake : Tryf.prog.make = some .cut := by
  rw [Program.make, head_list]
  kernel_rfl
theorem factMay : Tryf.prog.mayEnter = true := by
  rw [Program.mayEnter, head_list]
  kernel_rfl
theorem factLift : Tryf.prog.liftsFinal = false := by
  rw [Program.liftsFinal, Program.headLifts, head_list]
  kernel_rfl
end Go.Proofs.YtlahcemjknffnaaFmt
