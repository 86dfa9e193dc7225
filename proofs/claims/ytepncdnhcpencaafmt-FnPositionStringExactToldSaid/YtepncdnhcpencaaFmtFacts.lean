/-
  Three closed facts on the head of this seat's translation, shared by the seat's laws. Conditions: none.
-/
import Derived.Test.YtepncdnhcpencaaFmtRows
import Derived.JoinedOf
import Derived.KernelRfl
namespace Go.Proofs.YtepncdnhcpencaaFmt
/-- The signs of the translation's head, as numbers. -/
def headSigns : List Char := [104, 97, 114, 110, 101, 115, 115, 32, 55, 98, 48, 55, 99, 54, 56, 97, 55, 49, 100, 101, 101, 49, 53, 56, 48, 55, 102, 98, 98, 54, 97, 57, 98, 56, 54, 50, 49, 102, 56, 48, 57, 49, 49, 99, 52, 97, 101, 54, 53, 50, 50, 51, 101, 97, 97, 57, 56, 97, 57, 55, 56, 102, 99, 99, 57, 102, 54, 49, 98, 97, 102, 54, 32, 99, 117, 116, 32, 97, 116, 32, 103, 105, 116, 104, 117, 98, 46, 99, 111, 109, 47, 97, 108, 101, 99, 116, 104, 111, 109, 97, 115, 47, 112, 97, 114, 116, 105, 99, 105, 112, 108, 101, 47, 118, 50, 47, 110, 48, 50, 53, 95, 49, 55, 46, 70, 110, 80, 111, 115, 105, 116, 105, 111, 110, 83, 116, 114, 105, 110, 103, 69, 120, 97, 99, 116, 32, 103, 105, 116, 104, 117, 98, 46, 99, 111, 109, 47, 97, 108, 101, 99, 116, 104, 111, 109, 97, 115, 47, 112, 97, 114, 116, 105, 99, 105, 112, 108, 101, 47, 118, 50, 47, 110, 48, 50, 53, 95, 49, 55, 46, 70, 110, 69, 114, 114, 111, 114, 102, 69, 115, 99, 97, 112, 101, 100, 70, 111, 114, 109, 97, 116, 82, 111, 117, 110, 100, 84, 114, 105, 112, 32, 103, 105, 116, 104, 117, 98, 46, 99, 111, 109, 47, 97, 108, 101, 99, 116, 104, 111, 109, 97, 115, 47, 112, 97, 114, 116, 105, 99, 105, 112, 108, 101, 47, 118, 50, 47, 110, 48, 50, 53, 95, 49, 55, 46, 70, 110, 69, 114, 114, 111, 114, 102, 80, 101, 114, 99, 101, 110, 116, 83, 32, 115, 116, 111, 112, 32, 102, 109, 116, 46, 83, 112, 114, 105, 110, 116, 102, 43, 99, 97, 108, 108, 115].map Char.ofNat
theorem head_is : Tryf.prog.initOrder = String.ofList headSigns := by kernel_rfl
theorem head_list : Tryf.prog.initOrder.toList = headSigns := (congrArg String.toList head_is).trans String.toList_ofList
theorem factMake : Tryf.prog.make = some .cut := by
  rw [Program.make, head_list]
  kernel_rfl
theorem factMay : Tryf.prog.mayEnter = true := by
  rw [Program.mayEnter, head_list]
  kernel_rfl
theorem factLift : Tryf.prog.liftsFinal = false := by
  rw [Program.liftsFinal, Program.headLifts, head_list]
  kernel_rfl
end Go.Proofs.YtepncdnhcpencaaFmt
