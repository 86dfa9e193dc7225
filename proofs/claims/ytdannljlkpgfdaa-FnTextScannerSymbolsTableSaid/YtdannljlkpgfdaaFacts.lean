/-
  Three closed facts on the head of this seat's translation, shared by the seat's laws. Conditions: none.
-/
import Derived.Test.YtdannljlkpgfdaaRows
import Derived.JoinedOf
import Derived.KernelRfl
namespace Go.Proofs.Ytdannljlkpgfdaa
/-- The signs of the translation's head, as numbers. -/
def headSigns : List Char := [104, 97, 114, 110, 101, 115, 115, 32, 57, 53, 52, 56, 55, 49, 53, 98, 55, 98, 100, 97, 98, 53, 53, 51, 52, 98, 57, 51, 101, 98, 52, 50, 99, 100, 57, 102, 55, 102, 102, 100, 101, 48, 100, 55, 98, 56, 50, 100, 97, 55, 99, 53, 52, 56, 55, 55, 101, 56, 49, 49, 57, 99, 102, 101, 55, 53, 101, 55, 101, 97, 100, 98, 32, 99, 117, 116, 32, 97, 116, 32, 103, 105, 116, 104, 117, 98, 46, 99, 111, 109, 47, 97, 108, 101, 99, 116, 104, 111, 109, 97, 115, 47, 112, 97, 114, 116, 105, 99, 105, 112, 108, 101, 47, 118, 50, 47, 110, 48, 50, 53, 95, 53, 48, 46, 70, 110, 84, 101, 120, 116, 83, 99, 97, 110, 110, 101, 114, 83, 121, 109, 98, 111, 108, 115, 84, 97, 98, 108, 101].map Char.ofNat
theorem head_is : Try.prog.initOrder = String.ofList headSigns := by kernel_rfl
theorem head_list : Try.prog.initOrder.toList = headSigns := (congrArg String.toList head_is).trans String.toList_ofList
theorem factMake : Try.prog.make = some .cut := by
  rw [Program.make, head_list]
  kernel_rfl
theorem factMay : Try.prog.mayEnter = true := by
  rw [Program.mayEnter, head_list]
  kernel_rfl
theorem factLift : Try.prog.liftsFinal = false := by
  rw [Program.liftsFinal, Program.headLifts, head_list]
  kernel_rfl
end Go.Proofs.Ytdannljlkpgfdaa
