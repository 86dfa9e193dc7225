/-
  Contracts of Range and of visibleToken over this seat's translation. Conditions: the lexer's memory is as 'Lx' says.
-/
import Derived.Test.YtnbpddcgpjjibaaT5B
namespace Go.Proofs.Ytnbpddcgpjjibaa
open Go.RowKit
set_option linter.unusedSimpArgs false
set_option linter.unusedVariables false
def RangePost (w : World) (tb a N : Nat) (e : Ending) (w' : World) : Prop :=
  ∃ A' c', e = .returned (.slice A' N c') ∧ w = w' ∧ (0 < N → A' = some ⟨tb, a * 6, none⟩)
set_option maxRecDepth 100000 in
theorem range_any (w : World) (pb tb mb c nm : Nat) (L : List Tok) (S : Int → Bool) (raw next cur : Int) (a b N : Nat) (h : Lx w pb tb mb c nm L S raw next cur) (hab : a + N = b) (hb : b ≤ L.length) (hc : L.length ≤ c) (hl : L.length ≤ 1048576) (hcc : c ≤ 1048576) :
    Calls Try.prog 34 #[.pointer (some ⟨pb, 0, none⟩), .int .i64 a, .int .i64 b] w (RangePost w tb a N) := by
  obtain ⟨c0, c1, c2, c3, c4⟩ := h.cells
  clear h
  subst hab
  have h1 : (0 : Int) ≤ (a : Int) := by omega
  have h2 : (a : Int) ≤ ((a + N : Nat) : Int) := by omega
  have h3 : ((a + N : Nat) : Int) ≤ (c : Int) := by omega
  have hN : a + N - a = N := by omega
  have HN := Lib.hid hN; clear hN
  by_cases hac : a < c
  · go_enter Try.func34, Try.ntmps34
    go_wp2_with fail
    go_ret
    refine ⟨some ⟨tb, a * 6, none⟩, c - a, ?_, rfl, fun _ => rfl⟩
    show Ending.returned (Value.slice _ (a + N - a) _) = _
    rw [HN.out]
  · obtain rfl : a = c := by omega
    obtain rfl : N = 0 := by omega
    go_enter Try.func34, Try.ntmps34
    go_wp2_with fail
    go_ret
    exact ⟨_, _, by first | rfl | (show Ending.returned (Value.slice _ (a + 0 - a) _) = _; rw [HN.out]), rfl, fun h => absurd h (by omega)⟩
theorem visT_eof (w : World) (tg : Nat) (v f : ByteArray) (o l c : Int) :
    Calls Try.prog 36 #[.agg #[.int .i64 (-1), .string v, .string f, .int .i64 o, .int .i64 l, .int .i64 c], .pointer (some ⟨tg, 0, none⟩)] w fun e w' => e = .returned (.bool false) ∧ Below w.heap.size w w' := by
  go_enter Try.func36, Try.ntmps36
  go_wp2_with fail
  go_ret
  exact ⟨rfl, (Below.refl _ _).alloc (Nat.le_refl _) _⟩
theorem visT_any (w : World) (tg : Nat) (z : List Int) (B : Nat) (b : Bool) (v f : ByteArray) (o l c : Int) (hB : B < 256) (hT : Blk w tg 24 (tabA z)) (hb : Hid (inS z B = b)) :
    Calls Try.prog 36 #[.agg #[.int .i64 (B : Int), .string v, .string f, .int .i64 o, .int .i64 l, .int .i64 c], .pointer (some ⟨tg, 0, none⟩)] w fun e w' => e = .returned (.bool (!b)) ∧ Below w.heap.size w w' := by
  have hcb := tab_cell (hT.alloc (.cells #[.int .i64 (B : Int), .string v, .string f, .int .i64 o, .int .i64 l, .int .i64 c] 47)) hB
  rw [hb.out] at hcb
  have hcb' := tab_cell hT hB
  rw [hb.out] at hcb'
  have htl := hT.lt
  have hi0 : (0 : Int) ≤ (B : Int) := by omega
  have hi1 : (B : Int) < 256 := by omega
  have hne : tg ≠ w.heap.size := by omega
  clear hT
  go_enter Try.func36, Try.ntmps36
  go_wp2_with fail
  go_ret
  exact ⟨rfl, (Below.refl _ _).alloc (Nat.le_refl _) _⟩
theorem visT_tok (w : World) (tg : Nat) (z : List Int) (B : Nat) (b : Bool) (t : Tok) (hty : Hid (t.ty = (B : Int))) (hB : B < 256) (hT : Blk w tg 24 (tabA z)) (hb : Hid (inS z B = b)) :
    Calls Try.prog 36 #[.agg #[.int .i64 t.ty, .string t.val, .string t.fn, .int .i64 t.off, .int .i64 t.line, .int .i64 t.col], .pointer (some ⟨tg, 0, none⟩)] w fun e w' => e = .returned (.bool (!b)) ∧ Below w.heap.size w w' := by
  rw [hty.out]
  exact visT_any w tg z B b _ _ _ _ _ hB hT hb
end Go.Proofs.Ytnbpddcgpjjibaa
