/-
  Shared ends of the laws of n025_15. Conditions: none.
-/
import Derived.Test.YtnbpddcgpjjibaaT5
namespace Go.Proofs.Ytnbpddcgpjjibaa
open Go.RowKit
set_option linter.unusedSimpArgs false
set_option linter.unusedVariables false
def BoolAny (w : World) (e : Ending) (w' : World) : Prop := ∃ b, e = .returned (.bool b) ∧ w = w'
theorem min_nat (a b : Nat) (w : World) : Calls Try.prog 20 #[.int .i64 a, .int .i64 b] w fun e w' => e = .returned (.int .i64 ((min a b : Nat) : Int)) ∧ w = w' :=
  (min_any a b w).mono fun _ _ ⟨h1, h2⟩ => ⟨by rw [h1]; congr 2; omega, h2⟩
theorem heldCp {w0 w' : World} {pb tb mb cb c nm : Nat} {L : List Tok} {S : Int → Bool} {raw next cur r n q : Int} (h : Lx w' pb tb mb c nm L S raw next cur) (hc : Blk w' cb 37 #[.int .i64 r, .int .i64 n, .int .i64 q]) (hb : Below w0.heap.size w0 w') :
    Lx w' pb tb mb c nm L S raw next cur ∧ Blk w' cb 37 #[.int .i64 r, .int .i64 n, .int .i64 q] ∧ Below w0.heap.size w0 w' ∧ w'.cell? ⟨cb, 0, none⟩ = some (.int .i64 r) ∧ w'.cell? ⟨cb, 1, none⟩ = some (.int .i64 n) ∧ w'.cell? ⟨cb, 2, none⟩ = some (.int .i64 q) :=
  ⟨h, hc, hb, hc.cell 0, hc.cell 1, hc.cell 2⟩
theorem app_lt (z : List Int) (i : Nat) (h : i < z.length) : (z ++ [-1]).getD i (-1) = z.getD i 0 := by
  rw [List.getD_eq_getElem?_getD, List.getElem?_append_left h, List.getD_eq_getElem?_getD, List.getElem?_eq_getElem h]
  rfl
theorem app_eq (z : List Int) (i : Nat) (h : i = z.length) : (z ++ [-1]).getD i (-1) = -1 := by
  subst h; simp
theorem step_eof {S : Int → Bool} {T : List Int} {s : PL.St} (h : PL.at_ T s.next = -1) : s.step S T = s := by
  unfold PL.St.step; simp [h]
theorem step_cur {S : Int → Bool} {T : List Int} {s : PL.St} (h : PL.at_ T s.next ≠ -1) : (s.step S T).cur = s.cur + 1 := by
  unfold PL.St.step; simp [h]
end Go.Proofs.Ytnbpddcgpjjibaa
