/-
  Shared ends of the laws of n025_15. Conditions: none.
-/
import Derived.Test.YtnbpddcgpjjibaaT5
namespace Go.Proofs.Ytnbpddcgpjjibaa
open Go.RowKit
set_option linter.unusedSimpArgs false
set_option linter.unusedVariables false
def BoolAny (w : World) (e : Ending) (w' : World) : Prop := ∃ b, e = .returned (.bool b) ∧ w = w'
theorem min_nat (a b : Nat) (w : World) : Calls Try.prog 20 #[.int .i64 a, .int .i64 b] w fun e w' => e = .returned (.int .i64 ((min a b : Nat) : Int)) ∧ w = w' :=
  (min_any a b w).mono fun _ _ ⟨h1, h2⟩ => ⟨by rw [h1]; congr 2; omega, h2⟩
end Go.Proofs.Ytnbpddcgpjjibaa
