/-
  Plain facts for FnSequenceStringDecodesToTerms: sums of lengths, the terms' texts, what is read off a token. Conditions: none.
-/
import Derived.Test.YtjneojglklbbfaaD6A
import Derived.Test.YtjneojglklbbfaaEG
import Derived.StillTailTactics
namespace Go.Proofs.Ytjneojglklbbfaa
open Go.RowKit
set_option linter.unusedSimpArgs false
set_option linter.unusedVariables false
namespace PS
def sumB : List ByteArray → Nat
  | [] => 0
  | x :: r => x.size + sumB r
theorem sumB_append (xs ys : List ByteArray) : sumB (xs ++ ys) = sumB xs + sumB ys := by
  induction xs with
  | nil => simp [sumB]
  | cons x r ih => simp only [List.cons_append, sumB, ih]; omega
theorem sumB_snoc (xs : List ByteArray) (i : Nat) (h : i < xs.length) : sumB (xs.take (i + 1)) = sumB (xs.take i) + (xs.getD i ByteArray.empty).size := by
  rw [take_snoc xs i h, sumB_append]; simp [sumB]
theorem sumB_take (xs : List ByteArray) (i : Nat) : sumB (xs.take i) ≤ sumB xs := by
  have := sumB_append (xs.take i) (xs.drop i)
  rw [List.take_append_drop] at this
  omega
theorem sumB_get (xs : List ByteArray) (i : Nat) (h : i < xs.length) : (xs.getD i ByteArray.empty).size ≤ sumB xs := by
  have h1 := sumB_take xs (i + 1)
  rw [sumB_snoc xs i h] at h1
  omega
/-- The texts of the terms. -/
def texts (z : List ByteArray) (r : List Int) : List ByteArray := (List.range z.length).map fun i => z.getD i ByteArray.empty ++ repT (repAt r i)
theorem texts_length (z : List ByteArray) (r : List Int) : (texts z r).length = z.length := by simp [texts]
theorem texts_at (z : List ByteArray) (r : List Int) (i : Nat) (h : i < z.length) : (texts z r).getD i ByteArray.empty = z.getD i ByteArray.empty ++ repT (repAt r i) := by
  rw [List.getD_eq_getElem?_getD, List.getElem?_eq_getElem (by rw [texts_length]; exact h)]
  simp [texts]
theorem tot_le (xs : List ByteArray) (B : Nat) (h : ∀ x ∈ xs, x.size ≤ B) : tot xs ≤ xs.length * (B + 3) := by
  induction xs with
  | nil => simp [tot]
  | cons x r ih =>
    have h1 := ih (fun y hy => h y (by simp [hy]))
    have h2 := h x (by simp)
    simp only [tot, List.length_cons, Nat.add_mul, Nat.one_mul]
    omega
theorem tot_map (f g : Nat → ByteArray) (l : List Nat) (h : ∀ i, (f i).size ≤ (g i).size + 1) : tot (l.map f) ≤ sumB (l.map g) + 4 * l.length := by
  induction l with
  | nil => simp [tot]
  | cons a r ih =>
    have := h a
    simp only [List.map_cons, tot, sumB, List.length_cons]
    omega
theorem range_getD (z : List ByteArray) : (List.range z.length).map (fun i => z.getD i ByteArray.empty) = z := by
  apply List.ext_getElem (by simp)
  intro i h1 h2
  simp [List.getElem?_eq_getElem h2]
theorem texts_tot (z : List ByteArray) (r : List Int) : tot (texts z r) ≤ sumB z + 4 * z.length := by
  have := tot_map (fun i => z.getD i ByteArray.empty ++ repT (repAt r i)) (fun i => z.getD i ByteArray.empty) (List.range z.length) (fun i => by
    have := repT_size (repAt r i)
    rw [size_app]; omega)
  rw [range_getD, List.length_range] at this
  exact this
theorem repT_no_space (r : Int) : 32 ∉ (repT r).data.toList := by
  unfold repT
  repeat' split
  all_goals decide
theorem plain_parts {s : ByteArray} (h : plainB s = true) : 0 < s.size ∧ 32 ∉ s.data.toList := by
  unfold plainB at h
  split at h
  · rename_i h0
    refine ⟨h0, ?_⟩
    simp only [Bool.and_eq_true, Bool.not_eq_true', hasB, decide_eq_false_iff_not] at h
    exact h.1
  · cases h
theorem texts_split (z : List ByteArray) (r : List Int) (h : ∀ i, i < z.length → plainB (z.getD i ByteArray.empty) = true) : splF (join ⟨#[32]⟩ (texts z r)) 32 = texts z r := by
  have hmem : ∀ y ∈ texts z r, 32 ∉ y.data.toList ∧ 0 < y.size := by
    intro y hy
    obtain ⟨i, hi, rfl⟩ := List.mem_map.1 hy
    have hi := List.mem_range.1 hi
    obtain ⟨h1, h2⟩ := plain_parts (h i hi)
    rw [app_list, size_app]
    refine ⟨?_, by omega⟩
    simp only [List.mem_append, not_or]
    exact ⟨h2, repT_no_space _⟩
  generalize texts z r = T at hmem
  cases T with
  | nil => rfl
  | cons x xs =>
    have hp := (hmem x (by simp)).2
    have hne : ¬ (join ⟨#[32]⟩ (x :: xs)).size = 0 := by
      have : (join ⟨#[32]⟩ (x :: xs)).size = (join ⟨#[32]⟩ (x :: xs)).data.toList.length := by simp
      rw [this, join_list]
      simp only [List.map_cons, jnL, List.length_append]
      have : x.data.toList.length = x.size := by simp
      omega
    unfold splF
    rw [if_neg hne]
    exact splAt_join 32 x xs (fun y hy => (hmem y hy).1)
theorem last_app (s : ByteArray) (m : UInt8) (h : (s ++ (⟨#[m]⟩ : ByteArray)).size - 1 < (s ++ (⟨#[m]⟩ : ByteArray)).size) : (s ++ (⟨#[m]⟩ : ByteArray))[(s ++ (⟨#[m]⟩ : ByteArray)).size - 1]'h = m := by
  rw [← get_list _ _ h]
  have e : (s ++ (⟨#[m]⟩ : ByteArray)).data.toList = s.data.toList ++ [m] := by rw [app_list]
  have hz : (s ++ (⟨#[m]⟩ : ByteArray)).size - 1 = s.data.toList.length := by rw [size_app]; simp; rfl
  have : ((s ++ (⟨#[m]⟩ : ByteArray)).data.toList)[(s ++ (⟨#[m]⟩ : ByteArray)).size - 1]? = some m := by rw [e, hz]; simp
  rw [List.getElem?_eq_getElem (show _ < (s ++ (⟨#[m]⟩ : ByteArray)).data.toList.length by rw [Array.length_toList]; exact h)] at this
  exact Option.some.inj this
theorem cut_app (s : ByteArray) (m : UInt8) : (s ++ (⟨#[m]⟩ : ByteArray)).extract 0 ((s ++ (⟨#[m]⟩ : ByteArray)).size - 1) = s := by
  apply ba_ext
  have hz : (s ++ (⟨#[m]⟩ : ByteArray)).size - 1 = s.data.toList.length := by rw [size_app]; simp; rfl
  rw [ext_list, hz, app_list, List.drop_zero, List.take_left']
  rfl
/-- What is read off a token. -/
theorem tok_last (s : ByteArray) (r : Int) (h0 : 0 ≤ r) (h : plainB s = true) (hp : (s ++ repT r).size - 1 < (s ++ repT r).size) :
    repC (((s ++ repT r)[(s ++ repT r).size - 1]'hp).toNat : Int) = r % 5 ∧ (r % 5 ≠ 0 → (s ++ repT r).extract 0 ((s ++ repT r).size - 1) = s) ∧ (r % 5 = 0 → s ++ repT r = s) := by
  obtain ⟨h1, h2⟩ := plain_parts h
  unfold plainB at h
  rw [dif_pos h1] at h
  simp only [Bool.and_eq_true, beq_iff_eq] at h
  rcases (show r % 5 = 0 ∨ r % 5 = 1 ∨ r % 5 = 2 ∨ r % 5 = 3 ∨ r % 5 = 4 by omega) with e | e | e | e | e
  · have he : repT r = ByteArray.empty := by unfold repT; rw [e]; rfl
    rw [e]
    refine ⟨?_, fun h => absurd rfl h, fun _ => by rw [he, app_empty]⟩
    have := h.2
    simp only [he, app_empty]
    exact this
  · have he : repT r = ⟨#[42]⟩ := by unfold repT; rw [e]; rfl
    rw [e]
    refine ⟨?_, fun _ => by rw [he]; exact cut_app s 42, fun h => absurd h (by decide)⟩
    simp only [he]
    rw [last_app s 42]; rfl
  · have he : repT r = ⟨#[43]⟩ := by unfold repT; rw [e]; rfl
    rw [e]
    refine ⟨?_, fun _ => by rw [he]; exact cut_app s 43, fun h => absurd h (by decide)⟩
    simp only [he]
    rw [last_app s 43]; rfl
  · have he : repT r = ⟨#[63]⟩ := by unfold repT; rw [e]; rfl
    rw [e]
    refine ⟨?_, fun _ => by rw [he]; exact cut_app s 63, fun h => absurd h (by decide)⟩
    simp only [he]
    rw [last_app s 63]; rfl
  · have he : repT r = ⟨#[33]⟩ := by unfold repT; rw [e]; rfl
    rw [e]
    refine ⟨?_, fun _ => by rw [he]; exact cut_app s 33, fun h => absurd h (by decide)⟩
    simp only [he]
    rw [last_app s 33]; rfl
end PS
end Go.Proofs.Ytjneojglklbbfaa
