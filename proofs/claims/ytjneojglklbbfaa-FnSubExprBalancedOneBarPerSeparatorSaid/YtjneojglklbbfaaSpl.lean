/-
  Plain facts on splitting a string at a byte, and at the bytes of a bar between spaces: no program in sight. Conditions: none.
-/
import Derived.Test.YtjneojglklbbfaaStr
namespace Go.Proofs.Ytjneojglklbbfaa
set_option linter.unusedVariables false
namespace PS
/-! ### lists of bytes -/
def spl (sep : UInt8) : List UInt8 → List UInt8 → List (List UInt8)
  | cur, [] => [cur]
  | cur, c :: r => if c = sep then cur :: spl sep [] r else spl sep (cur ++ [c]) r
theorem spl_word (sep : UInt8) (x : List UInt8) (h : sep ∉ x) (cur r : List UInt8) : spl sep cur (x ++ r) = spl sep (cur ++ x) r := by
  induction x generalizing cur with
  | nil => simp
  | cons c q ih =>
    simp only [List.mem_cons, not_or] at h
    have hc : ¬ c = sep := fun e => h.1 e.symm
    simp only [List.cons_append, spl, if_neg hc]
    rw [ih h.2]
    simp
def jnL (sep : List UInt8) : List (List UInt8) → List UInt8
  | [] => []
  | x :: r => x ++ r.flatMap (sep ++ ·)
theorem spl_flat (sep : UInt8) (xs : List (List UInt8)) (h : ∀ x ∈ xs, sep ∉ x) (cur : List UInt8) : spl sep cur (xs.flatMap ([sep] ++ ·)) = cur :: xs := by
  induction xs generalizing cur with
  | nil => rfl
  | cons x r ih =>
    have hx := h x (by simp)
    simp only [List.flatMap_cons, List.cons_append, List.nil_append, spl, if_true]
    rw [spl_word sep x hx, List.nil_append]
    exact congrArg _ (ih (fun y hy => h y (by simp [hy])) x)
theorem spl_jnL (sep : UInt8) (x : List UInt8) (xs : List (List UInt8)) (h : ∀ y ∈ x :: xs, sep ∉ y) : spl sep [] (jnL [sep] (x :: xs)) = x :: xs := by
  show spl sep [] (x ++ _) = _
  rw [spl_word sep x (h x (by simp)), List.nil_append]
  exact spl_flat sep xs (fun y hy => h y (by simp [hy])) x
/-! ### the join of byte strings, as lists -/
theorem ba_ext {a b : ByteArray} (h : a.data.toList = b.data.toList) : a = b := by
  cases a; cases b
  congr 1
  exact Array.toList_inj.1 h
theorem app_list (a b : ByteArray) : (a ++ b).data.toList = a.data.toList ++ b.data.toList := by simp
theorem jn_list (sep acc : ByteArray) (xs : List ByteArray) : (jn sep acc xs).data.toList = acc.data.toList ++ (xs.map (·.data.toList)).flatMap (sep.data.toList ++ ·) := by
  induction xs generalizing acc with
  | nil => simp [jn]
  | cons x r ih => rw [jn, ih, app_list, app_list]; simp
theorem join_list (sep : ByteArray) (xs : List ByteArray) : (join sep xs).data.toList = jnL sep.data.toList (xs.map (·.data.toList)) := by
  cases xs with
  | nil => rfl
  | cons x r => exact jn_list sep x r
/-! ### what the loop gathers -/
def splAt (s : ByteArray) (sep : UInt8) (start i : Nat) : List ByteArray :=
  if h : i < s.size then (if s[i] = sep then s.extract start i :: splAt s sep (i + 1) (i + 1) else splAt s sep start (i + 1)) else [s.extract start s.size]
termination_by s.size - i
theorem ext_list (s : ByteArray) (a b : Nat) : (s.extract a b).data.toList = (s.data.toList.take b).drop a := by
  simp [List.drop_take]
theorem get_list (s : ByteArray) (i : Nat) (h : i < s.size) : s.data.toList[i]'(by simpa using h) = s[i] := by
  simp; rfl
theorem splAt_list (s : ByteArray) (sep : UInt8) (start i : Nat) (h : start ≤ i) : (splAt s sep start i).map (·.data.toList) = spl sep ((s.data.toList.take i).drop start) (s.data.toList.drop i) := by
  rcases Nat.lt_or_ge i s.size with hi | hi
  · have hd : s.data.toList.drop i = s[i] :: s.data.toList.drop (i + 1) := by
      rw [List.drop_eq_getElem_cons (by simpa using hi), get_list s i hi]
    rw [splAt, dif_pos hi, hd]
    have ih1 := splAt_list s sep (i + 1) (i + 1) (Nat.le_refl _)
    have ih2 := splAt_list s sep start (i + 1) (by omega)
    by_cases hs : s[i] = sep
    · rw [if_pos hs, List.map_cons, ih1, ext_list]
      simp only [spl, if_pos hs]
      congr 1
      rw [List.drop_eq_nil_of_le (by simp; omega)]
    · rw [if_neg hs, ih2]
      simp only [spl, if_neg hs]
      congr 1
      rw [List.take_succ_eq_append_getElem (by simpa using hi), get_list s i hi, List.drop_append_of_le_length (by simp; omega)]
  · have hd : s.data.toList.drop i = [] := List.drop_eq_nil_of_le (by simpa using hi)
    have ht : s.data.toList.take i = s.data.toList := List.take_of_length_le (by simpa using hi)
    have ht2 : s.data.toList.take s.size = s.data.toList := List.take_of_length_le (by simp)
    rw [splAt, dif_neg (by omega), hd, ht, List.map_cons, ext_list, ht2]
    rfl
termination_by s.size - i
theorem map_list_inj {xs ys : List ByteArray} (h : xs.map (·.data.toList) = ys.map (·.data.toList)) : xs = ys := by
  induction xs generalizing ys with
  | nil => cases ys with
    | nil => rfl
    | cons _ _ => cases h
  | cons x r ih => cases ys with
    | nil => cases h
    | cons y q =>
      simp only [List.map_cons, List.cons.injEq] at h
      rw [ba_ext h.1, ih h.2]
/-- Splitting the join of words gives the words back. -/
theorem splAt_join (sep : UInt8) (x : ByteArray) (xs : List ByteArray) (h : ∀ y ∈ x :: xs, sep ∉ y.data.toList) : splAt (join ⟨#[sep]⟩ (x :: xs)) sep 0 0 = x :: xs := by
  apply map_list_inj
  rw [splAt_list _ _ _ _ (Nat.le_refl _), join_list]
  simp only [List.take_zero, List.drop_nil, List.drop_zero]
  exact spl_jnL sep x.data.toList (xs.map (·.data.toList)) (by
    intro y hy
    rw [← List.map_cons (f := fun z : ByteArray => z.data.toList)] at hy
    obtain ⟨z, hz, rfl⟩ := List.mem_map.1 hy
    exact h z hz)
theorem splAt_step_hit (s : ByteArray) (sep : UInt8) (start i : Nat) (h : i < s.size) (he : s[i] = sep) : splAt s sep start i = s.extract start i :: splAt s sep (i + 1) (i + 1) := by
  rw [splAt, dif_pos h, if_pos he]
theorem splAt_step_miss (s : ByteArray) (sep : UInt8) (start i : Nat) (h : i < s.size) (he : ¬ s[i] = sep) : splAt s sep start i = splAt s sep start (i + 1) := by
  rw [splAt, dif_pos h, if_neg he]
theorem splAt_end (s : ByteArray) (sep : UInt8) (start i : Nat) (h : ¬ i < s.size) : splAt s sep start i = [s.extract start s.size] := by
  rw [splAt, dif_neg h]
theorem splAt_length (s : ByteArray) (sep : UInt8) (start i : Nat) : (splAt s sep start i).length ≤ s.size - i + 1 := by
  rcases Nat.lt_or_ge i s.size with hi | hi
  · have ih1 := splAt_length s sep (i + 1) (i + 1)
    have ih2 := splAt_length s sep start (i + 1)
    by_cases hs : s[i] = sep
    · rw [splAt_step_hit _ _ _ _ hi hs]; simp only [List.length_cons]; omega
    · rw [splAt_step_miss _ _ _ _ hi hs]; omega
  · rw [splAt_end _ _ _ _ (by omega)]; simp
termination_by s.size - i
end PS
end Go.Proofs.Ytjneojglklbbfaa
