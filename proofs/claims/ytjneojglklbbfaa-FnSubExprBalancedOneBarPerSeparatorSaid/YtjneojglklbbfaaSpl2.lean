/-
  Plain facts on splitting a string at a bar between two spaces: no program in sight. Conditions: none.
-/
import Derived.Test.YtjneojglklbbfaaSpl
namespace Go.Proofs.Ytjneojglklbbfaa
set_option linter.unusedVariables false
namespace PS
/-- Splits at the three bytes 32, 124, 32. -/
def sps : List UInt8 → List UInt8 → List (List UInt8)
  | cur, [] => [cur]
  | cur, c :: r => if (c :: r).take 3 = [32, 124, 32] then cur :: sps [] (r.drop 2) else sps (cur ++ [c]) r
termination_by _ l => l.length
decreasing_by all_goals simp; try omega
theorem sps_nil (cur : List UInt8) : sps cur [] = [cur] := by rw [sps]
theorem sps_hit (cur r : List UInt8) : sps cur (32 :: 124 :: 32 :: r) = cur :: sps [] r := by
  rw [sps, if_pos (by rfl)]; rfl
theorem sps_miss (cur : List UInt8) (c : UInt8) (r : List UInt8) (h : (c :: r).take 3 ≠ [32, 124, 32]) : sps cur (c :: r) = sps (cur ++ [c]) r := by
  rw [sps, if_neg h]
theorem sps_word (x : List UInt8) (h : 32 ∉ x) (cur r : List UInt8) : sps cur (x ++ r) = sps (cur ++ x) r := by
  induction x generalizing cur with
  | nil => simp
  | cons c q ih =>
    simp only [List.mem_cons, not_or] at h
    rw [List.cons_append, sps_miss _ _ _ (by intro e; simp only [List.take_succ_cons, List.cons.injEq] at e; exact h.1 e.1.symm), ih h.2]
    simp
/-- A word: not empty, without a space, not the lone bar. -/
def Word (x : List UInt8) : Prop := x ≠ [] ∧ 32 ∉ x ∧ x ≠ [124]
/-- What follows a word: nothing, or a space. -/
def Stop (r : List UInt8) : Prop := r = [] ∨ ∃ q, r = 32 :: q
theorem sps_next (x : List UInt8) (hx : Word x) (cur r : List UInt8) (hr : Stop r) : sps cur (32 :: (x ++ r)) = sps (cur ++ 32 :: x) r := by
  obtain ⟨h0, h1, h2⟩ := hx
  rw [sps_miss]
  · rw [sps_word x h1]; simp
  · intro e
    match x, h0, h1, h2 with
    | [a], _, _, h2 =>
      simp only [List.cons_append, List.nil_append, List.take_succ_cons, List.cons.injEq] at e
      exact h2 (by rw [e.2.1])
    | a :: b :: q, _, h1, _ =>
      simp only [List.cons_append, List.take_succ_cons, List.take_zero, List.cons.injEq, and_true] at e
      simp only [List.mem_cons, not_or] at h1
      exact h1.2.1 e.2.2.symm
theorem stop_flat (xs : List (List UInt8)) (r : List UInt8) (hr : Stop r) : Stop (xs.flatMap ([32] ++ ·) ++ r) := by
  cases xs with
  | nil => exact hr
  | cons x q => exact .inr ⟨_, rfl⟩
theorem sps_words (xs : List (List UInt8)) (h : ∀ x ∈ xs, Word x) (cur r : List UInt8) (hr : Stop r) : sps cur (xs.flatMap ([32] ++ ·) ++ r) = sps (cur ++ xs.flatMap ([32] ++ ·)) r := by
  induction xs generalizing cur with
  | nil => simp
  | cons x q ih =>
    have h1 := sps_next x (h x (by simp)) cur (q.flatMap ([32] ++ ·) ++ r) (stop_flat q r hr)
    have e : (x :: q).flatMap ([32] ++ ·) ++ r = 32 :: (x ++ (q.flatMap ([32] ++ ·) ++ r)) := by simp
    rw [e, h1, ih (fun y hy => h y (by simp [hy]))]
    simp
theorem sps_part (x : List UInt8) (xs : List (List UInt8)) (h : ∀ y ∈ x :: xs, Word y) (r : List UInt8) (hr : Stop r) : sps [] (jnL [32] (x :: xs) ++ r) = sps (jnL [32] (x :: xs)) r := by
  show sps [] (x ++ xs.flatMap ([32] ++ ·) ++ r) = sps (x ++ xs.flatMap ([32] ++ ·)) r
  rw [List.append_assoc, sps_word x (h x (by simp)).2.1, List.nil_append, sps_words xs (fun y hy => h y (by simp [hy])) _ _ hr]
theorem sps_parts (as : List (List (List UInt8))) (h : ∀ a ∈ as, a ≠ [] ∧ ∀ x ∈ a, Word x) (cur : List UInt8) :
    sps cur ((as.map (jnL [32])).flatMap ([32, 124, 32] ++ ·)) = cur :: as.map (jnL [32]) := by
  induction as generalizing cur with
  | nil => exact sps_nil cur
  | cons a r ih =>
    obtain ⟨h0, h1⟩ := h a (by simp)
    obtain ⟨x, xs, rfl⟩ : ∃ x xs, a = x :: xs := by
      cases a with
      | nil => exact absurd rfl h0
      | cons x xs => exact ⟨x, xs, rfl⟩
    have e : (((x :: xs) :: r).map (jnL [32])).flatMap ([32, 124, 32] ++ ·) = 32 :: 124 :: 32 :: (jnL [32] (x :: xs) ++ (r.map (jnL [32])).flatMap ([32, 124, 32] ++ ·)) := by simp
    rw [e, sps_hit, sps_part x xs h1 _ (by
      cases r with
      | nil => exact .inl rfl
      | cons b q => exact .inr ⟨_, rfl⟩), ih (fun b hb => h b (by simp [hb]))]
    rfl
theorem sps_alts (a : List (List UInt8)) (as : List (List (List UInt8))) (h : ∀ b ∈ a :: as, b ≠ [] ∧ ∀ x ∈ b, Word x) :
    sps [] (jnL [32, 124, 32] ((a :: as).map (jnL [32]))) = (a :: as).map (jnL [32]) := by
  obtain ⟨h0, h1⟩ := h a (by simp)
  obtain ⟨x, xs, rfl⟩ : ∃ x xs, a = x :: xs := by
    cases a with
    | nil => exact absurd rfl h0
    | cons x xs => exact ⟨x, xs, rfl⟩
  show sps [] (jnL [32] (x :: xs) ++ (as.map (jnL [32])).flatMap ([32, 124, 32] ++ ·)) = _
  rw [sps_part x xs h1 _ (by
      cases as with
      | nil => exact .inl rfl
      | cons b q => exact .inr ⟨_, rfl⟩), sps_parts as (fun b hb => h b (by simp [hb]))]
  rfl
/-! ### what the loop gathers -/
def spsAt (s : ByteArray) (start i : Nat) : List ByteArray :=
  if h : i + 3 ≤ s.size then (if s.extract i (i + 3) = ⟨#[32, 124, 32]⟩ then s.extract start i :: spsAt s (i + 3) (i + 3) else spsAt s start (i + 1)) else [s.extract start s.size]
termination_by s.size - i
theorem sps_short (cur r : List UInt8) (h : r.length < 3) : sps cur r = [cur ++ r] := by
  induction r generalizing cur with
  | nil => simp [sps_nil]
  | cons c q ih =>
    rw [sps_miss _ _ _ (by
      intro e
      have := congrArg List.length e
      simp at this h
      omega), ih _ (by simp at h; omega)]
    simp
theorem spsAt_list (s : ByteArray) (start i : Nat) (h : start ≤ i) (hi : i ≤ s.size) : (spsAt s start i).map (·.data.toList) = sps ((s.data.toList.take i).drop start) (s.data.toList.drop i) := by
  have hl : s.data.toList.length = s.size := by simp
  have key : (s.data.toList.take i).drop start ++ s.data.toList.drop i = s.data.toList.drop start := by
    rw [← List.drop_append_of_le_length (by simp; omega), List.take_append_drop]
  rcases Nat.lt_or_ge s.size (i + 3) with h3 | h3
  · rw [spsAt, dif_neg (by omega), sps_short _ _ (by simp; omega), key]
    have ht2 : s.data.toList.take s.size = s.data.toList := List.take_of_length_le (by simp)
    rw [List.map_cons, ext_list, ht2]; rfl
  · have hd : s.data.toList.drop i = s[i] :: s.data.toList.drop (i + 1) := by
      rw [List.drop_eq_getElem_cons (by rw [hl]; omega), get_list s i (by omega)]
    have ht3 : (s.data.toList.drop i).take 3 = (s.extract i (i + 3)).data.toList := by rw [ext_list, List.drop_take, Nat.add_sub_cancel_left]
    rw [spsAt, dif_pos h3]
    have ih1 := spsAt_list s (i + 3) (i + 3) (Nat.le_refl _) h3
    have ih2 := spsAt_list s start (i + 1) (by omega) (by omega)
    by_cases hs : s.extract i (i + 3) = ⟨#[32, 124, 32]⟩
    · rw [if_pos hs, List.map_cons, ih1, ext_list]
      rw [hs] at ht3
      have e : s.data.toList.drop i = 32 :: 124 :: 32 :: s.data.toList.drop (i + 3) := by
        rw [← List.take_append_drop 3 (s.data.toList.drop i), ht3, List.drop_drop]; rfl
      rw [e, sps_hit]
      congr 1
      rw [List.drop_eq_nil_of_le (by simp; omega)]
    · rw [if_neg hs, ih2, hd, sps_miss]
      · congr 1
        rw [List.take_succ_eq_append_getElem (by rw [hl]; omega), get_list s i (by omega), List.drop_append_of_le_length (by simp; omega)]
      · rw [← hd, ht3]
        intro e
        exact hs (ba_ext e)
termination_by s.size - i
/-- Splitting the join of parts, each a join of words, gives the parts back. -/
theorem spsAt_join (a : List ByteArray) (as : List (List ByteArray)) (h : ∀ b ∈ a :: as, b ≠ [] ∧ ∀ x ∈ b, Word x.data.toList) :
    spsAt (join ⟨#[32, 124, 32]⟩ ((a :: as).map (join ⟨#[32]⟩))) 0 0 = (a :: as).map (join ⟨#[32]⟩) := by
  apply map_list_inj
  rw [spsAt_list _ _ _ (Nat.le_refl _) (Nat.zero_le _), join_list]
  simp only [List.take_zero, List.drop_nil, List.drop_zero]
  have e : ((a :: as).map (join ⟨#[32]⟩)).map (·.data.toList) = ((a :: as).map (fun b => b.map (·.data.toList))).map (jnL [32]) := by
    simp only [List.map_map]
    apply List.map_congr_left
    intro b _
    exact join_list ⟨#[32]⟩ b
  rw [e]
  exact sps_alts (a.map (·.data.toList)) (as.map (fun b => b.map (·.data.toList))) (by
    intro b hb
    rw [← List.map_cons (f := fun b : List ByteArray => b.map (·.data.toList))] at hb
    obtain ⟨z, hz, rfl⟩ := List.mem_map.1 hb
    refine ⟨by have := (h z hz).1; simpa using this, fun x hx => ?_⟩
    obtain ⟨y, hy, rfl⟩ := List.mem_map.1 hx
    exact (h z hz).2 y hy)
theorem spsAt_hit (s : ByteArray) (start i : Nat) (h : i + 3 ≤ s.size) (he : s.extract i (i + 3) = ⟨#[32, 124, 32]⟩) : spsAt s start i = s.extract start i :: spsAt s (i + 3) (i + 3) := by
  rw [spsAt, dif_pos h, if_pos he]
theorem spsAt_miss (s : ByteArray) (start i : Nat) (h : i + 3 ≤ s.size) (he : ¬ s.extract i (i + 3) = ⟨#[32, 124, 32]⟩) : spsAt s start i = spsAt s start (i + 1) := by
  rw [spsAt, dif_pos h, if_neg he]
theorem spsAt_end (s : ByteArray) (start i : Nat) (h : ¬ i + 3 ≤ s.size) : spsAt s start i = [s.extract start s.size] := by
  rw [spsAt, dif_neg h]
theorem spsAt_length (s : ByteArray) (start i : Nat) : (spsAt s start i).length ≤ s.size - i + 1 := by
  rcases Nat.lt_or_ge s.size (i + 3) with hi | hi
  · rw [spsAt_end _ _ _ (by omega)]; simp
  · have ih1 := spsAt_length s (i + 3) (i + 3)
    have ih2 := spsAt_length s start (i + 1)
    by_cases hs : s.extract i (i + 3) = ⟨#[32, 124, 32]⟩
    · rw [spsAt_hit _ _ _ hi hs]; simp only [List.length_cons]; omega
    · rw [spsAt_miss _ _ _ hi hs]; omega
termination_by s.size - i
end PS
end Go.Proofs.Ytjneojglklbbfaa
