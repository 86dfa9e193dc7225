/-
  The walk of FnAddIsAssociative: adding positions is associative where the two later lines lie in 1..2^30. Conditions: none beyond the statement's own.
-/
import Derived.Test.YtflnaicolpmeeaaRows
import Derived.WalkKit
import Derived.WalkSpells
import Derived.WalkLawsBesides
import Derived.Outline
import Derived.Below
import Derived.Lib.Hide
import Derived.Deep.RegionHeld3
namespace Go.Proofs.Ytflnaicolpmeeaa
open Go.RowKit

def BoolIf (p : Prop) (w : World) (e : Ending) (w' : World) : Prop := ∃ b : Bool, (b = true → p) ∧ e = .returned (.bool b) ∧ w = w'

theorem zz5 (s0 s1 s2 : ByteArray) (a1 a2 a3 a5 a6 a7 a9 a10 a11 : Int) (w : World) (h0 : s0.size ≤ maxLen) (h1 : s1.size ≤ maxLen) (h2 : s2.size ≤ maxLen) :
    Calls Try.prog 5 #[.string s0, .int .i64 a1, .int .i64 a2, .int .i64 a3, .string s1, .int .i64 a5, .int .i64 a6, .int .i64 a7, .string s2, .int .i64 a9, .int .i64 a10, .int .i64 a11] w
      (BoolIf (s0.size + s1.size + s2.size ≤ 1048576) w) := by
  unfold maxLen at h0 h1 h2
  go_enter Try.func5, Try.ntmps5
  go_wp2
  all_goals (go_ret; exact ⟨_, by simp; try omega, rfl, rfl⟩)

theorem cell_new' (W : World) (cs : Array Value) (t : TypeId) (b i : Nat) (h : b = W.heap.size) : (W.alloc (.cells cs t)).cell? ⟨b, i, none⟩ = cs[i]? := by
  subst h
  exact cell_of_row _ _ _ cs t (0, 0) (heap_alloc_new W _)

theorem below_next {w W w' : World} (h : Below W.heap.size W w') (k : Below w.heap.size w W) : Below w.heap.size w w' := k.trans (h.mono k.size)

def colF (c l' c' : Int) : Int := if 1 < l' then c' else wrap64 (c + wrap64 (c' - 1))
def offF (o o' : Int) : Int := wrap64 (o + o')
def linF (l l' : Int) : Int := wrap64 (l + wrap64 (l' - 1))

theorem off_assoc (a b c : Int) : offF (offF a b) c = offF a (offF b c) := by
  unfold offF wrap64; omega
theorem lin_assoc (a b c : Int) : linF (linF a b) c = linF a (linF b c) := by
  unfold linF wrap64; omega
theorem col_assoc (c l' c' l'' c'' : Int) (h1 : 1 ≤ l') (h2 : l' ≤ 1073741824) (h3 : 1 ≤ l'') (h4 : l'' ≤ 1073741824) : colF (colF c l' c') l'' c'' = colF c (linF l' l'') (colF c' l'' c'') := by
  have e : linF l' l'' = l' + l'' - 1 := by unfold linF wrap64; omega
  rw [e]
  unfold colF
  by_cases g : 1 < l''
  · rw [if_pos g, if_pos g, if_pos (by omega)]
  · rw [if_neg g, if_neg g]
    by_cases g' : 1 < l'
    · rw [if_pos g', if_pos (by omega)]
    · rw [if_neg g', if_neg (by omega)]
      unfold wrap64; omega

theorem add6 (s s' : ByteArray) (o l c o' l' c' : Int) (w : World) :
    Calls Try.prog 6 #[.agg #[.string s, .int .i64 o, .int .i64 l, .int .i64 c], .agg #[.string s', .int .i64 o', .int .i64 l', .int .i64 c']] w fun e w' =>
      e = .returned (.agg #[.string s, .int .i64 (offF o o'), .int .i64 (linF l l'), .int .i64 (colF c l' c')]) ∧ Below w.heap.size w w' := by
  by_cases hl : 1 < l'
  · have hc : colF c l' c' = c' := by simp [colF, hl]
    rw [hc]
    go_enter Try.func6, Try.ntmps6
    go_wp2
    refine bodyPost_ret (v := .agg #[.string s, .int .i64 (wrap64 (o + o')), .int .i64 (wrap64 (l + wrap64 (l' - 1))), .int .i64 c']) (by simp [results, Try.results6, go_sem]) rfl ⟨rfl, ?_⟩
    exact ((((Below.refl _ _).alloc (Nat.le_refl _) _).alloc (by simp) _).alloc (by simp; omega) _)
  · have hc : colF c l' c' = wrap64 (c + wrap64 (c' - 1)) := by simp [colF, hl]
    rw [hc]
    go_enter Try.func6, Try.ntmps6
    go_wp2
    refine bodyPost_ret (v := .agg #[.string s, .int .i64 (wrap64 (o + o')), .int .i64 (wrap64 (l + wrap64 (l' - 1))), .int .i64 (wrap64 (c + wrap64 (c' - 1)))]) (by simp [results, Try.results6, go_sem]) rfl ⟨rfl, ?_⟩
    exact ((((Below.refl _ _).alloc (Nat.le_refl _) _).alloc (by simp) _).alloc (by simp; omega) _)

namespace fnAddIsAssociative
theorem walk (s0 : ByteArray) (a1 a2 a3 : Int) (s1 : ByteArray) (a5 a6 a7 : Int) (s2 : ByteArray) (a9 a10 a11 : Int) (w : World) (h0 : s0.size ≤ maxLen) (_ : (Lit.int .i64 a1).wf = true) (_ : (Lit.int .i64 a2).wf = true) (_ : (Lit.int .i64 a3).wf = true) (h1 : s1.size ≤ maxLen) (_ : (Lit.int .i64 a5).wf = true) (_ : (Lit.int .i64 a6).wf = true) (_ : (Lit.int .i64 a7).wf = true) (h2 : s2.size ≤ maxLen) (_ : (Lit.int .i64 a9).wf = true) (_ : (Lit.int .i64 a10).wf = true) (_ : (Lit.int .i64 a11).wf = true) :
    Calls Try.prog 3 #[.string s0, .int .i64 a1, .int .i64 a2, .int .i64 a3, .string s1, .int .i64 a5, .int .i64 a6, .int .i64 a7, .string s2, .int .i64 a9, .int .i64 a10, .int .i64 a11] w
      fun e w' => e = .returned (.bool true) ∧ Below w.heap.size w w' := by
  unfold maxLen at h0 h1 h2
  go_enter Try.func3, Try.ntmps3
  go_wp2_with fail
  refine (zz5 _ _ _ _ _ _ _ _ _ _ _ _ _ h0 h1 h2).mono ?_
  rintro e w' ⟨b, hb, rfl, rfl⟩
  cases b
  · go_wp2_with fail
    go_ret
    exact ⟨rfl, Below.refl _ _⟩
  · replace hb := hb rfl
    by_cases hin : 1 ≤ a6 ∧ a6 ≤ 1073741824 ∧ 1 ≤ a10 ∧ a10 ≤ 1073741824
    · obtain ⟨hi1, hi2, hi3, hi4⟩ := hin
      have e1 := off_assoc a1 a5 a9
      have e2 := lin_assoc a2 a6 a10
      have e3 := col_assoc a3 a6 a7 a10 a11 hi1 hi2 hi3 hi4
      go_wp2_with fail
      go_region_held3 (fun w' => w'.cell? ⟨w.heap.size, 0, none⟩ = some (.string s0) ∧ w'.cell? ⟨w.heap.size, 1, none⟩ = some (.int .i64 a1) ∧ w'.cell? ⟨w.heap.size, 2, none⟩ = some (.int .i64 a2) ∧ w'.cell? ⟨w.heap.size, 3, none⟩ = some (.int .i64 a3) ∧ w'.cell? ⟨w.heap.size + 1, 0, none⟩ = some (.string s1) ∧ w'.cell? ⟨w.heap.size + 1, 1, none⟩ = some (.int .i64 a5) ∧ w'.cell? ⟨w.heap.size + 1, 2, none⟩ = some (.int .i64 a6) ∧ w'.cell? ⟨w.heap.size + 1, 3, none⟩ = some (.int .i64 a7) ∧ w'.cell? ⟨w.heap.size + 1 + 1, 0, none⟩ = some (.string s2) ∧ w'.cell? ⟨w.heap.size + 1 + 1, 1, none⟩ = some (.int .i64 a9) ∧ w'.cell? ⟨w.heap.size + 1 + 1, 2, none⟩ = some (.int .i64 a10) ∧ w'.cell? ⟨w.heap.size + 1 + 1, 3, none⟩ = some (.int .i64 a11) ∧ Below w.heap.size w w') ((repeat' apply And.intro) <;> first | exact cell_later hbl (by simp [*]; done) | exact (cell_new' _ _ _ _ _ (by simp)).trans rfl | (go_keep; done) | exact ((((Below.refl _ _).alloc (Nat.le_refl _) _).alloc (by simp) _).alloc (by simp; omega) _).drew | exact below_next hbl (by simp [*]; done)) (first | (go_at_call 6; refine (add6 _ _ _ _ _ _ _ _ _).mono ?_; rintro e w' ⟨rfl, hbl⟩))
      all_goals go_wp2
      all_goals (go_ret; exact ⟨rfl, by simp [*]⟩)
    · go_wp2_with fail
      all_goals first | (exfalso; omega) | (go_ret; exact ⟨rfl, Below.refl _ _⟩)
end fnAddIsAssociative
end Go.Proofs.Ytflnaicolpmeeaa
