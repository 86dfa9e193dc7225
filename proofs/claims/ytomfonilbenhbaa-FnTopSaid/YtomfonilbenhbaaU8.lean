/-
  Range over a built lexer; the length guards of n025_10; zzReplay as a lexer behind an interface. Conditions: the lexer's memory as 'Blk' says.
-/
import Derived.Test.YtomfonilbenhbaaU7
import Derived.Test.YtomfonilbenhbaaN9A
namespace Go.Proofs.Ytomfonilbenhbaa
open Go.RowKit
set_option linter.unusedSimpArgs false
set_option linter.unusedVariables false
namespace Up
def RangePost (w : World) (tb a N : Nat) (e : Ending) (w' : World) : Prop :=
  ∃ A' c', e = .returned (.slice A' N c') ∧ w = w' ∧ (0 < N → A' = some ⟨tb, a * 6, none⟩)
set_option maxRecDepth 100000 in
theorem range_at (w : World) (pb tb n c : Nat) (x0 x1 x2 x4 : Value) (a b N : Nat) (h : Blk w pb 52 #[x0, x1, x2, .slice (some ⟨tb, 0, none⟩) n c, x4]) (hab : a + N = b) (hb : b ≤ c) (hcc : c ≤ maxLen) :
    Calls Try.prog 20 #[.pointer (some ⟨pb, 0, none⟩), .int .i64 a, .int .i64 b] w (RangePost w tb a N) := by
  have c3 := h.cell 3
  simp at c3
  unfold maxLen at hcc
  clear h
  subst hab
  have h1 : (0 : Int) ≤ (a : Int) := by omega
  have h2 : (a : Int) ≤ ((a + N : Nat) : Int) := by omega
  have h3 : ((a + N : Nat) : Int) ≤ (c : Int) := by omega
  have hN : a + N - a = N := by omega
  have HN := Lib.hid hN; clear hN
  by_cases hac : a < c
  · go_enter Try.func20, Try.ntmps20
    go_wp2_with fail
    go_ret
    refine ⟨some ⟨tb, a * 6, none⟩, c - a, ?_, rfl, fun _ => rfl⟩
    show Ending.returned (Value.slice _ (a + N - a) _) = _
    rw [HN.out]
  · obtain rfl : a = c := by omega
    obtain rfl : N = 0 := by omega
    go_enter Try.func20, Try.ntmps20
    go_wp2_with fail
    go_ret
    exact ⟨_, _, by first | rfl | (show Ending.returned (Value.slice _ (a + 0 - a) _) = _; rw [HN.out]), rfl, fun h => absurd h (by omega)⟩
set_option maxRecDepth 100000 in
theorem range_nil (w : World) (pb : Nat) (x0 x1 x2 x4 : Value) (tb a : Nat) (h : Blk w pb 52 #[x0, x1, x2, .slice none 0 0, x4]) :
    Calls Try.prog 20 #[.pointer (some ⟨pb, 0, none⟩), .int .i64 0, .int .i64 ((0 : Nat) : Int)] w (RangePost w tb a 0) := by
  have c3 := h.cell 3
  simp at c3
  clear h
  go_enter Try.func20, Try.ntmps20
  go_wp2_with fail
  go_ret
  exact ⟨none, 0, rfl, rfl, fun h => absurd h (by omega)⟩
theorem zzA (A0 : Option Addr) (n0 c0 : Nat) (A1 : Option Addr) (n1 c1 : Nat) (k : Int) (w : World) (h0 : n0 ≤ maxLen) (h1 : n1 ≤ maxLen) :
    Calls Try.prog 14 #[.slice A0 n0 c0, .slice A1 n1 c1, .int .i64 k] w (BoolAny w) := by
  unfold maxLen at h0 h1
  go_enter Try.func14, Try.ntmps14
  go_wp2_with fail
  all_goals (go_ret; exact ⟨_, rfl, rfl⟩)
theorem zzB (A0 : Option Addr) (n0 c0 : Nat) (A1 : Option Addr) (n1 c1 : Nat) (w : World) (h0 : n0 ≤ maxLen) (h1 : n1 ≤ maxLen) :
    Calls Try.prog 23 #[.slice A0 n0 c0, .slice A1 n1 c1] w (BoolAny w) := by
  unfold maxLen at h0 h1
  go_enter Try.func23, Try.ntmps23
  go_wp2_with fail
  all_goals (go_ret; exact ⟨_, rfl, rfl⟩)
/-- zzReplay's cells behind j calls. -/
def rpZ (tb c : Nat) (L : List Tok) (fa : Int) (ev : Value) (j : Nat) : Array Value := rpCells tb L.length c (j : Int) fa (j : Int) ev
theorem rp_src (zb tb c : Nat) (L : List Tok) (fa : Int) (ev : Value) (m : Nat) (hm : m ≤ L.length) (hL : L.length ≤ 1048576) (hfa : ∀ j : Nat, j < m → (j : Int) ≠ fa) : Src 29 84 zb 32 (rpZ tb c L fa ev) tb L m where
  meth := fun _ => by kernel_rfl
  enter := fun _ _ => by kernel_rfl
  ne := by decide
  next := fun j W hj hz hr => (rp_tok W zb tb c L j fa j ev hz hr (by omega) (hfa j hj) (by omega) (by omega) (by omega)).mono fun e w' ⟨h1, h2, h3⟩ => ⟨h1, by unfold rpZ; rwa [show ((j + 1 : Nat) : Int) = (j : Int) + 1 by omega] at h2 ⊢, h3⟩
/-- zzReplay's cells behind the failing call. -/
def rpF (tb c : Nat) (L : List Tok) (m : Nat) (v : Value) : Array Value := rpCells tb L.length c (m : Int) (m : Int) ((m : Int) + 1) v
theorem rp_fails (zb tb c : Nat) (L : List Tok) (ev : Value) (m : Nat) (hm : m ≤ 1048576) : Fails 84 zb 32 (rpZ tb c L m ev) tb L m 30 (rpF tb c L m) (fun _ => True) := fun W hz hr =>
  (rp_fail W zb tb L.length c m m ev hz (by omega) (by omega)).mono fun e w' ⟨eb, h1, h2, h3⟩ => ⟨eb, trivial, h1, h2, h3⟩
end Up
end Go.Proofs.Ytomfonilbenhbaa
