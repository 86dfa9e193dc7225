/-
  Three closed facts on the head of this seat's translation, shared by the seat's laws. Conditions: none.
-/
import Derived.Test.YtjgmknlkgpfpkaaRows
import Derived.JoinedOf
import Derived.KernelRfl
namespace Go.Proofs.Ytjgmknlkgpfpkaa
/-- The signs of the translation's head, as numbers. -/
def headSigns : List Char := [104, 97, 114, 110, 101, 115, 115, 32, 48, 101, 100, 48, 51, 98, 51, 56, 55, 49, 49, 49, 49, 49, 99, 52, 52, 100, 56, 48, 100, 53, 50, 53, 54, 57, 101, 50, 48, 53, 55, 57, 101, 98, 49, 52, 49, 98, 55, 52, 100, 102, 102, 57, 97, 100, 56, 102, 57, 102, 54, 54, 51, 57, 56, 102, 97, 102, 53, 53, 100, 56, 98, 98, 32, 99, 117, 116, 32, 97, 116, 32, 103, 105, 116, 104, 117, 98, 46, 99, 111, 109, 47, 97, 108, 101, 99, 116, 104, 111, 109, 97, 115, 47, 112, 97, 114, 116, 105, 99, 105, 112, 108, 101, 47, 118, 50, 47, 110, 48, 50, 53, 95, 49, 50, 46, 70, 110, 80, 111, 112, 70, 117, 110, 99, 85, 110, 100, 111, 101, 115, 80, 117, 115, 104, 70, 117, 110, 99, 32, 103, 105, 116, 104, 117, 98, 46, 99, 111, 109, 47, 97, 108, 101, 99, 116, 104, 111, 109, 97, 115, 47, 112, 97, 114, 116, 105, 99, 105, 112, 108, 101, 47, 118, 50, 47, 110, 48, 50, 53, 95, 49, 50, 46, 70, 110, 80, 111, 112, 70, 117, 110, 99, 65, 103, 114, 101, 101, 115, 87, 105, 116, 104, 65, 99, 116, 105, 111, 110, 80, 111, 112, 32, 103, 105, 116, 104, 117, 98, 46, 99, 111, 109, 47, 97, 108, 101, 99, 116, 104, 111, 109, 97, 115, 47, 112, 97, 114, 116, 105, 99, 105, 112, 108, 101, 47, 118, 50, 47, 110, 48, 50, 53, 95, 49, 50, 46, 70, 110, 80, 117, 115, 104, 84, 104, 101, 110, 80, 111, 112, 82, 101, 115, 116, 111, 114, 101, 115, 83, 116, 97, 99, 107].map Char.ofNat
theorem head_is : Try.prog.initOrder = String.ofList headSigns := by kernel_rfl
theorem head_list : Try.prog.initOrder.toList = headSigns := (congrArg String.toList head_is).trans String.toList_ofList
theorem factMake : Try.prog.make = some .cut := by
  rw [Program.make, head_list]
  kernel_rfl
theorem factMay : Try.prog.mayEnter = true := by
  rw [Program.mayEnter, head_list]
  kernel_rfl
theorem factLift : Try.prog.liftsFinal = false := by
  rw [Program.liftsFinal, Program.headLifts, head_list]
  kernel_rfl
end Go.Proofs.Ytjgmknlkgpfpkaa
