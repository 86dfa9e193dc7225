/-
  The small functions over the stack: the actions called by name and through the interface, the readers. Conditions: as the actions' own.
-/
import Derived.Test.YtjgmknlkgpfpkaaJ2
namespace Go.Proofs.Ytjgmknlkgpfpkaa
open Go.RowKit
set_option linter.unusedSimpArgs false
set_option linter.unusedVariables false
section
variable {w : World} {R : Ending → World → Prop}
set_option maxRecDepth 100000 in
theorem pushW {st : ByteArray} {b : Nat} {A : Option Addr} {n c : Nat} (h : Calls Try.prog 26 #[.agg #[.string st], .pointer (some ⟨b, 0, none⟩), .slice A n c] w fun e w' => (e = .returned .nilIface ∨ ∃ t u, e = .returned (.iface t u)) ∧ R e w') :
    Calls Try.prog 19 #[.string st, .pointer (some ⟨b, 0, none⟩), .slice A n c] w R := by
  go_enter Try.func19, Try.ntmps19
  go_wp2_with fail
  refine h.mono ?_
  rintro e w1 ⟨rfl | ⟨t, u, rfl⟩, hr⟩
  all_goals
    go_wp2_with fail
    exact hr
set_option maxRecDepth 100000 in
theorem popW {b : Nat} {A : Option Addr} {n c : Nat} (h : Calls Try.prog 24 #[.agg #[], .pointer (some ⟨b, 0, none⟩), .slice A n c] w fun e w' => (e = .returned .nilIface ∨ ∃ t u, e = .returned (.iface t u)) ∧ R e w') :
    Calls Try.prog 16 #[.pointer (some ⟨b, 0, none⟩), .slice A n c] w R := by
  go_enter Try.func16, Try.ntmps16
  go_wp2_with fail
  refine h.mono ?_
  rintro e w1 ⟨rfl | ⟨t, u, rfl⟩, hr⟩
  all_goals
    go_wp2_with fail
    exact hr
set_option maxRecDepth 100000 in
theorem push_is (st : ByteArray) (w : World) : Calls Try.prog 22 #[.string st] w fun e w' => e = .returned (.iface 55 (.agg #[.string st])) ∧ w = w' := by
  go_enter Try.func22, Try.ntmps22
  go_wp2_with fail
  go_ret
  exact ⟨rfl, rfl⟩
set_option maxRecDepth 100000 in
theorem pop_is (w : World) : Calls Try.prog 23 #[] w fun e w' => e = .returned (.iface 52 (.agg #[])) ∧ w = w' := by
  go_enter Try.func23, Try.ntmps23
  go_wp2_with fail
  go_ret
  exact ⟨rfl, rfl⟩
set_option maxRecDepth 100000 in
theorem pushF {st : ByteArray} {b : Nat} {A : Option Addr} {n c : Nat} (h : Calls Try.prog 26 #[.agg #[.string st], .pointer (some ⟨b, 0, none⟩), .slice A n c] w fun e w' => (e = .returned .nilIface ∨ ∃ t u, e = .returned (.iface t u)) ∧ R e w') :
    Calls Try.prog 11 #[.string st, .pointer (some ⟨b, 0, none⟩), .slice A n c] w R := by
  have hm : ∀ W : World, (method 255 55 (.agg #[.string st]) "github.com/alecthomas/participle/v2/lexer.applyAction").run Try.prog W = .ok (26, .agg #[.string st]) W := fun _ => by kernel_rfl
  go_enter Try.func11, Try.ntmps11
  go_wp2_with fail
  refine (push_is st w).mono ?_
  rintro e w1 ⟨rfl, rfl⟩
  go_wp2_with fail
  refine h.mono ?_
  rintro e w1 ⟨rfl | ⟨t, u, rfl⟩, hr⟩
  all_goals
    go_wp2_with fail
    exact hr
set_option maxRecDepth 100000 in
theorem popF {b : Nat} {A : Option Addr} {n c : Nat} (h : Calls Try.prog 24 #[.agg #[], .pointer (some ⟨b, 0, none⟩), .slice A n c] w fun e w' => (e = .returned .nilIface ∨ ∃ t u, e = .returned (.iface t u)) ∧ R e w') :
    Calls Try.prog 13 #[.pointer (some ⟨b, 0, none⟩), .slice A n c] w R := by
  have hm : ∀ W : World, (method 255 52 (.agg #[]) "github.com/alecthomas/participle/v2/lexer.applyAction").run Try.prog W = .ok (24, .agg #[]) W := fun _ => by kernel_rfl
  go_enter Try.func13, Try.ntmps13
  go_wp2_with fail
  refine (pop_is w).mono ?_
  rintro e w1 ⟨rfl, rfl⟩
  go_wp2_with fail
  refine h.mono ?_
  rintro e w1 ⟨rfl | ⟨t, u, rfl⟩, hr⟩
  all_goals
    go_wp2_with fail
    exact hr
end
section
variable {w : World} {lo b : Nat} {es : List Ent}
set_option maxRecDepth 100000 in
theorem len_any (h : StkR lo w b es) : Calls Try.prog 10 #[.pointer (some ⟨b, 0, none⟩)] w fun e w' => e = .returned (.int .i64 es.length) ∧ w = w' := by
  obtain ⟨-, A, c, h2, -, -⟩ := h
  have hq := h2.cell
  generalize es.length = N at hq ⊢
  go_enter Try.func10, Try.ntmps10
  go_wp2_with fail
  go_ret
  exact ⟨rfl, rfl⟩
set_option maxRecDepth 100000 in
theorem name_any {i : Nat} {x : Ent} (h : StkR lo w b es) (hx : es[i]? = some x) : Calls Try.prog 12 #[.pointer (some ⟨b, 0, none⟩), .int .i64 i] w fun e w' => e = .returned (.string x.nm) ∧ w = w' := by
  obtain ⟨g, c, c1, c2, c3, -⟩ := h.ent hx
  have hlt := lt_of_get hx
  generalize es.length = N at c1 hlt
  have i0 : (0 : Int) ≤ (i : Int) := by omega
  have i1 : (i : Int) < (N : Int) := by omega
  clear h hx
  go_enter Try.func12, Try.ntmps12
  go_wp2_with fail
  go_ret
  exact ⟨rfl, rfl⟩
set_option maxRecDepth 100000 in
theorem groups_any {i : Nat} {x : Ent} (h : StkR lo w b es) (hx : es[i]? = some x) : Calls Try.prog 20 #[.pointer (some ⟨b, 0, none⟩), .int .i64 i] w fun e w' => e = .returned (.slice x.A x.n x.c) ∧ w = w' := by
  obtain ⟨g, c, c1, c2, c3, -⟩ := h.ent hx
  have hlt := lt_of_get hx
  generalize es.length = N at c1 hlt
  have i0 : (0 : Int) ≤ (i : Int) := by omega
  have i1 : (i : Int) < (N : Int) := by omega
  clear h hx
  go_enter Try.func20, Try.ntmps20
  go_wp2_with fail
  go_ret
  exact ⟨rfl, rfl⟩
end
end Go.Proofs.Ytjgmknlkgpfpkaa
