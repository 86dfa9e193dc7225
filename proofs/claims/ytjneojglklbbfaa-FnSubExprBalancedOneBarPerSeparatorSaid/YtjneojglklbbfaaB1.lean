/-
  Contracts for FnExpressionStringDecodesToAlternatives: the bound's test, the names' test, the split at bars. Conditions: none beyond the statement's own.
-/
import Derived.Test.YtjneojglklbbfaaA3
import Derived.Test.YtjneojglklbbfaaD6C
namespace Go.Proofs.Ytjneojglklbbfaa
open Go.RowKit
set_option linter.unusedSimpArgs false
set_option linter.unusedVariables false
def sumN : List (List ByteArray) → Nat
  | [] => 0
  | x :: r => x.length + PS.sumB x + sumN r
theorem sumN_append (xs ys : List (List ByteArray)) : sumN (xs ++ ys) = sumN xs + sumN ys := by
  induction xs with
  | nil => simp [sumN]
  | cons x r ih => simp only [List.cons_append, sumN, ih]; omega
theorem sumN_snoc (xs : List (List ByteArray)) (i : Nat) (h : i < xs.length) : sumN (xs.take (i + 1)) = sumN (xs.take i) + ((xs.getD i []).length + PS.sumB (xs.getD i [])) := by
  rw [take_snocA xs i h, sumN_append]; simp [sumN]
theorem sumN_take (xs : List (List ByteArray)) (i : Nat) : sumN (xs.take i) ≤ sumN xs := by
  have := sumN_append (xs.take i) (xs.drop i)
  rw [List.take_append_drop] at this
  omega
theorem sumN_get (xs : List (List ByteArray)) (i : Nat) : (xs.getD i []).length + PS.sumB (xs.getD i []) ≤ sumN xs := by
  rcases Nat.lt_or_ge i xs.length with h | h
  · have h1 := sumN_take xs (i + 1)
    rw [sumN_snoc xs i h] at h1
    omega
  · rw [List.getD_eq_getElem?_getD, List.getElem?_eq_none h]
    exact Nat.zero_le _
theorem tot_sumB (z : List ByteArray) : PS.tot z = PS.sumB z + 3 * z.length := by
  induction z with
  | nil => rfl
  | cons x r ih => simp only [PS.tot, PS.sumB, ih, List.length_cons]; omega
/-- How an alternative of names prints. -/
def nmText (z : List ByteArray) : ByteArray := PS.join ⟨#[32]⟩ z
theorem nmText_size (z : List ByteArray) : (nmText z).size ≤ PS.sumB z + 3 * z.length := by
  have := PS.join_size (sep := ⟨#[32]⟩) (by decide) z
  rw [tot_sumB] at this
  exact this
theorem tot_names (zs : List (List ByteArray)) : PS.tot (zs.map nmText) ≤ 3 * sumN zs + 3 * zs.length := by
  induction zs with
  | nil => simp [PS.tot]
  | cons x r ih =>
    have h1 := nmText_size x
    simp only [List.map_cons, PS.tot, sumN, List.length_cons]
    omega
/-- A name that the statement takes. -/
def altB (s : ByteArray) : Bool := !decide (s.size = 0) && (!decide (s = ⟨#[124]⟩) && !PS.hasB s 32)
theorem altB_word {s : ByteArray} (h : altB s = true) : PS.Word s.data.toList := by
  unfold altB at h
  simp only [Bool.and_eq_true, Bool.not_eq_true', decide_eq_false_iff_not] at h
  obtain ⟨h1, h2, h3⟩ := h
  refine ⟨fun e => h1 ?_, ?_, fun e => h2 (PS.ba_ext e)⟩
  · have := congrArg List.length e
    simpa using this
  · unfold PS.hasB at h3
    simpa using h3
theorem toList_ne {a : ByteArray} {l : List UInt8} (h : ¬ a = ⟨l.toArray⟩) : (a.toList == l) = false := by
  rw [ByteArray.toList_eq]
  have : ¬ a.data.toList = l := fun e => h (PS.ba_ext (by rw [e]))
  simpa using this
theorem altName_any (s : ByteArray) (w : World) (hs : s.size ≤ 9223372036854775807) :
    Calls Try.prog 49 #[.string s] w fun e w' => e = .returned (.bool (altB s)) ∧ w = w' := by
  by_cases h0 : s.size = 0
  · have he : s.toList.isEmpty = true := by rw [toList_empty]; simpa using h0
    have hr : altB s = false := by unfold altB; rw [decide_eq_true h0]; rfl
    rw [hr]
    clear hr h0
    go_enter Try.func49, Try.ntmps49
    go_wp2_with fail
    go_ret
    exact ⟨rfl, rfl⟩
  have he : s.toList.isEmpty = false := by rw [toList_empty]; simpa using h0
  by_cases h1 : s = ⟨#[124]⟩
  · subst h1
    go_enter Try.func49, Try.ntmps49
    go_wp2_with fail
    go_ret
    exact ⟨rfl, rfl⟩
  have hr : altB s = !PS.hasB s 32 := by unfold altB; rw [decide_eq_false h0, decide_eq_false h1]; rfl
  rw [hr]
  clear hr h0
  have hb1 : (s.toList == [124]) = false := toList_ne h1
  go_enter Try.func49, Try.ntmps49
  go_wp2_with fail
  refine (hasByte_any s 32 32 rfl w hs).mono ?_
  rintro e w' ⟨rfl, rfl⟩
  go_wp2_with fail
  go_ret
  exact ⟨rfl, rfl⟩
/-- What zzSplitSep gives at the bar between spaces. -/
def splS (s : ByteArray) : List ByteArray := if s.size = 0 then [] else PS.spsAt s 0 0
theorem splS_length (s : ByteArray) : (splS s).length ≤ s.size + 1 := by
  unfold splS
  split
  · simp
  · have := PS.spsAt_length s 0 0; omega
set_option maxHeartbeats 1000000 in
set_option maxRecDepth 100000 in
theorem sep_any (s : ByteArray) (w : World) (hs : s.size ≤ 1073741824) :
    Calls Try.prog 51 #[.string s, .string ⟨#[32, 124, 32]⟩] w (ClonePost w (splS s).length (splS s)) := by
  obtain ⟨i0, hi, hz0, hz1, hz2⟩ := info_parts strInfo
  by_cases h0 : s.size = 0
  · have he : s.toList.isEmpty = true := by rw [toList_empty]; simpa using h0
    have hr : splS s = [] := by unfold splS; rw [if_pos h0]
    rw [hr]
    clear hr h0
    go_enter Try.func51, Try.ntmps51
    go_wp2_with fail
    go_ret
    exact ⟨none, 0, rfl, ⟨rfl, Nat.zero_le _, by simp, .inl ⟨rfl, rfl⟩⟩, Below.refl _ _⟩
  have he : s.toList.isEmpty = false := by rw [toList_empty]; simpa using h0
  have hr : splS s = PS.spsAt s 0 0 := by unfold splS; rw [if_neg h0]
  rw [hr]
  clear hr h0
  generalize hX : PS.spsAt s 0 0 = X
  have HX := Lib.hid hX; clear hX
  have esz : ((⟨#[32, 124, 32]⟩ : ByteArray)).size = 3 := rfl
  go_enter Try.func51, Try.ntmps51
  go_wp2_with fail
  go_loopg [5, 6, 7] s.size (fun k o st i wr => ∃ (a j : Nat) (ys : List ByteArray), k = s.size - j ∧ j ≤ s.size ∧ a ≤ j ∧ st = .int .i64 a ∧ i = .int .i64 j ∧ Hid (ys.length ≤ j ∧ (∀ z ∈ ys, z.size ≤ maxLen) ∧ ys ++ PS.spsAt s a j = X) ∧ wr.ownsRow w.heap.size 9 1 o ys.length (ys.map Value.string) ∧ Below w.heap.size w wr)
  case atStart => exact ⟨0, 0, [], rfl, Nat.zero_le _, Nat.le_refl _, rfl, rfl, ⟨Nat.zero_le _, by simp, HX.out⟩, World.ownsRow_nil _ _ _ _, Below.refl _ _⟩
  case round =>
    obtain ⟨a, j, ys, hk, hj, ha, rfl, rfl, HY, hown, hbel⟩ := hrel
    have KK := Lib.hid hk; clear hk
    have hyl := HY.out.1
    have hsz := hbel.size
    by_cases hlt : j + 3 ≤ s.size
    · have g0 : (0 : Int) ≤ (j : Int) := by omega
      have g1 : (j : Int) + 3 ≤ (s.size : Int) := by omega
      have g2 : (0 : Int) ≤ (a : Int) := by omega
      have g3 : (a : Int) ≤ (j : Int) := by omega
      by_cases hs' : s.extract j (j + 3) = ⟨#[32, 124, 32]⟩
      · have HN : Hid ((ys ++ [s.extract a j]).length ≤ j + 3 ∧ (∀ z ∈ ys ++ [s.extract a j], z.size ≤ maxLen) ∧ (ys ++ [s.extract a j]) ++ PS.spsAt s (j + 3) (j + 3) = X) := by
          refine ⟨by simp; omega, fun z hz => ?_, ?_⟩
          · rcases List.mem_append.1 hz with h | h
            · exact HY.out.2.1 z h
            · simp at h; rw [h]; exact ext_size s a j (by unfold maxLen; omega)
          · have := HY.out.2.2
            rw [PS.spsAt_hit s a j hlt hs'] at this
            rw [← this]; simp
        go_wp2_with (at_builtin; refine wpList_append_own _ rfl _ _ 22 rfl w.heap.size 9 i0 (.string ByteArray.empty) 1 16 Try.underlying22 hi hz0 hz1 hz2 rfl (by decide) _ _ _ rfl (hown.alloc _) ⟨wr.heap.size, 0, none⟩ 1 1 [.string (s.extract a j)] rfl rfl one_news (by intro u hu; simp at hu; subst hu; rfl) (by unfold maxLen; omega) (by omega) (by simp; omega) ?_; intro v2 w2 hown2 hg2 _)
        have hb2 := own_grow hown hbel (Nat.le_refl _) _ hg2
        have hown3 : w2.ownsRow w.heap.size 9 1 v2 (ys ++ [s.extract a j]).length ((ys ++ [s.extract a j]).map Value.string) := by simpa using hown2
        clear hown2 hg2
        go_wp2_with fail
        go_roundg (s.size - (j + 3))
        case measure => rw [KK.out]; omega
        case rel => exact ⟨j + 3, j + 3, ys ++ [s.extract a j], rfl, by omega, Nat.le_refl _, by go_num, by go_num, HN, hown3, hb2⟩
      · have HN : Hid (ys.length ≤ j + 1 ∧ (∀ z ∈ ys, z.size ≤ maxLen) ∧ ys ++ PS.spsAt s a (j + 1) = X) := by
          refine ⟨by omega, HY.out.2.1, ?_⟩
          rw [← PS.spsAt_miss s a j hlt hs']
          exact HY.out.2.2
        have hb1 : ((s.extract j (j + 3)).toList == [32, 124, 32]) = false := toList_ne hs'
        go_wp2_with fail
        go_roundg (s.size - (j + 1))
        case measure => rw [KK.out]; omega
        case rel => exact ⟨a, j + 1, ys, rfl, by omega, by omega, rfl, by go_num, HN, hown, hbel⟩
    · have HN : Hid ((∀ z ∈ ys ++ [s.extract a s.size], z.size ≤ maxLen) ∧ ys ++ [s.extract a s.size] = X) := by
        refine ⟨fun z hz => ?_, ?_⟩
        · rcases List.mem_append.1 hz with h | h
          · exact HY.out.2.1 z h
          · simp at h; rw [h]; exact ext_size s a s.size (by unfold maxLen; omega)
        · have := HY.out.2.2
          rw [PS.spsAt_end s a j hlt] at this
          exact this
      have g2 : (0 : Int) ≤ (a : Int) := by omega
      have g3 : (a : Int) ≤ (s.size : Int) := by omega
      have g4 : ¬ (j : Int) + 3 ≤ (s.size : Int) := by omega
      go_wp2_with (at_builtin; refine wpList_append_own _ rfl _ _ 22 rfl w.heap.size 9 i0 (.string ByteArray.empty) 1 16 Try.underlying22 hi hz0 hz1 hz2 rfl (by decide) _ _ _ rfl (hown.alloc _) ⟨wr.heap.size, 0, none⟩ 1 1 [.string (s.extract a s.size)] rfl rfl one_news (by intro u hu; simp at hu; subst hu; rfl) (by unfold maxLen; omega) (by omega) (by simp; omega) ?_; intro v2 w2 hown2 hg2 _)
      have hb2 := own_grow hown hbel (Nat.le_refl _) _ hg2
      have hown3 : w2.ownsRow w.heap.size 9 1 v2 (ys ++ [s.extract a s.size]).length ((ys ++ [s.extract a s.size]).map Value.string) := by simpa using hown2
      rw [HN.out.2] at hown3
      obtain ⟨A, c, hv2, hS⟩ := Strs.of_own hown3 (by rw [← HN.out.2]; unfold maxLen; simp; omega) (by rw [← HN.out.2]; exact HN.out.1)
      clear hown2 hg2 hown3
      go_wp2_with fail
      go_ret
      exact ⟨A, c, by rw [hv2]; rfl, hS, hb2⟩
end Go.Proofs.Ytjneojglklbbfaa
