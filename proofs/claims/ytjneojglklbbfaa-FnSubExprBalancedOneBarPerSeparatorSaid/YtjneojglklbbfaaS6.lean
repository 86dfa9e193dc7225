/-
  Leaf terms of n025_6: what zzTerm builds out of a TermSpec, and what such a term says. Conditions: sizes as stated.
-/
import Derived.Test.YtjneojglklbbfaaD6B
namespace Go.Proofs.Ytjneojglklbbfaa
open Go.RowKit
set_option linter.unusedSimpArgs false
set_option linter.unusedVariables false
theorem blk_new_at {w : World} {b : Nat} {t : TypeId} {cs : Array Value} (hb : b = w.heap.size) : Blk (w.alloc (.cells cs t)) b t cs := by subst hb; exact Blk.new w t cs
theorem row_of_blk {w : World} {b : Nat} {t : TypeId} {cs : Array Value} {xs : List Value} (h : Blk w b t cs) (hx : cs.toList = xs) : Row w b t xs :=
  ⟨cs, h, fun j u hu => by rw [← hx] at hu; simpa using hu⟩
/-- The text that a spec's term bears. -/
def specText (s : ByteArray) : ByteArray := if s.size = 0 then ⟨#[95]⟩ else s
def leafCells (m : Int) (tx rp : ByteArray) : Array Value :=
  if m = 0 then #[.bool false, .string tx, .string ⟨#[]⟩, .string ⟨#[]⟩, .pointer none, .string rp]
  else if m = 1 then #[.bool false, .string ⟨#[]⟩, .string tx, .string ⟨#[]⟩, .pointer none, .string rp]
  else #[.bool false, .string ⟨#[]⟩, .string ⟨#[]⟩, .string tx, .pointer none, .string rp]
/-- How a leaf prints, its repetition apart. -/
def leafText (m : Int) (tx : ByteArray) : ByteArray := if m = 0 then tx else if m = 1 then tx else (⟨#[60]⟩ : ByteArray) ++ tx ++ ⟨#[62]⟩
theorem leaf_says {w : World} {b : Nat} {q : Option Nat} {m : Int} {tx rp : ByteArray} (hq : some b ≠ q) (hm : m = 0 ∨ m = 1 ∨ m = 2) (hb : Blk w b 33 (leafCells m tx rp)) (hn : 0 < tx.size) (h1 : tx.size ≤ 1073741824) (h2 : rp.size ≤ 1073741824) :
    SaysG q w 38 b (leafText m tx ++ rp) := by
  have he : tx.toList.isEmpty = false := by rw [toList_empty, decide_eq_false_iff_not]; omega
  rcases hm with rfl | rfl | rfl
  · exact term_nameG hq hb he h1 h2
  · exact term_litG hq hb he h1 h2
  · exact term_tokG hq hb he h1 h2
/-- A new leaf term. -/
def TermPost (w : World) (k : Int) (s : ByteArray) (r : Int) (e : Ending) (w' : World) : Prop :=
  ∃ b, e = .returned (.pointer (some ⟨b, 0, none⟩)) ∧ w.heap.size ≤ b ∧ Blk w' b 33 (leafCells (k % 3) (specText s) (PS.repT r)) ∧ Below w.heap.size w w'
set_option maxHeartbeats 1000000 in
set_option maxRecDepth 100000 in
theorem term_any (k : Int) (s : ByteArray) (r : Int) (w : World) (hk0 : 0 ≤ k) (hk1 : k ≤ 255) (hr0 : 0 ≤ r) (hr1 : r ≤ 255) : Calls Try.prog 35 #[.agg #[.int .u8 k, .string s, .int .u8 r]] w (TermPost w k s r) := by
  have ht : k.tmod 3 = k % 3 := Int.tmod_eq_emod_of_nonneg hk0
  unfold TermPost
  obtain ⟨m, hm⟩ : ∃ m, m = k % 3 := ⟨_, rfl⟩
  have hm3 : m = 0 ∨ m = 1 ∨ m = 2 := by omega
  rw [← hm] at ht ⊢
  clear hm
  have hr := rep_any r
  have HRP := Lib.hid hr; clear hr
  generalize PS.repT r = rp at HRP ⊢
  by_cases h0 : s.size = 0
  · have he : s.toList.isEmpty = true := by rw [toList_empty, decide_eq_true_eq]; exact h0
    have htx : specText s = ⟨#[95]⟩ := by unfold specText; rw [if_pos h0]
    rw [htx]
    clear htx h0
    rcases hm3 with rfl | rfl | rfl
    all_goals
      go_enter Try.func35, Try.ntmps35
      go_wp2_with (go_at_call 37; refine (HRP.out _ hr0 hr1).mono ?_; rintro e w1 ⟨rfl, rfl⟩)
      go_ret
      exact ⟨w.heap.size + 1, rfl, by omega, blk_new_at (by simp), ((Below.refl _ _).alloc (Nat.le_refl _) _).alloc (by simp) _⟩
  · have he : s.toList.isEmpty = false := by rw [toList_empty, decide_eq_false_iff_not]; exact h0
    have htx : specText s = s := by unfold specText; rw [if_neg h0]
    rw [htx]
    clear htx h0
    rcases hm3 with rfl | rfl | rfl
    all_goals
      go_enter Try.func35, Try.ntmps35
      go_wp2_with (go_at_call 37; refine (HRP.out _ hr0 hr1).mono ?_; rintro e w1 ⟨rfl, rfl⟩)
      go_ret
      exact ⟨w.heap.size + 1, rfl, by omega, blk_new_at (by simp), ((Below.refl _ _).alloc (Nat.le_refl _) _).alloc (by simp) _⟩
end Go.Proofs.Ytjneojglklbbfaa
