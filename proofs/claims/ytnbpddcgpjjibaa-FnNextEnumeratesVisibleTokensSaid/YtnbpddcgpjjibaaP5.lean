/-
  Plain facts for the laws of n025_15: where the cursors stand behind k calls of Next, told by counts of visible tokens; the table of elided bytes. No program in sight. Conditions: none.
-/
import Derived.Test.YtnbpddcgpjjibaaP4
namespace Go.Proofs.Ytnbpddcgpjjibaa
set_option linter.unusedVariables false
namespace PL
section
variable {S : Int → Bool} {T : List Int} {E : Nat}
theorem none_vis {r j : Nat} (h : cnt S T j ≤ cnt S T r) : ∀ i, r ≤ i → i < j → vis S T i = false := fun i h1 h2 => by
  cases hv : vis S T i with
  | false => rfl
  | true =>
    have := cnt_lt_of_vis (i := r) (j := j) h1 h2 hv
    omega
theorem Inv.cur_is {k : Nat} {s : St} (I : Inv S T E k s) : s.cur = min k (cnt S T E) := by
  have h1 := cnt_mono (S := S) (T := T) I.raw
  rw [I.cur] at h1
  have h2 := I.most
  rcases Nat.lt_or_ge s.cur k with g | g
  · have hn := I.all g
    obtain ⟨g1, _⟩ := stop_spec (S := S) (T := T) s.raw
    rw [← I.next, hn] at g1
    have e := cnt_same (S := S) (T := T) I.raw (fun i a b => vis_false_of_not_stop (g1 i a b))
    rw [I.cur] at e
    omega
  · omega
theorem Inv.raw_zero {k : Nat} {s : St} (I : Inv S T E k s) (h : min k (cnt S T E) = 0) : s.raw = 0 := by
  have hc := I.cur_is
  rcases I.last with hl | hl
  · exact hl
  · have hr : 0 < s.raw ∨ s.raw = 0 := by omega
    rcases hr with hr | hr
    · have := cnt_lt_of_vis (i := 0) (j := s.raw) (k := s.raw - 1) (by omega) (by omega) hl
      rw [I.cur] at this
      omega
    · exact hr
theorem Inv.raw_is {k v : Nat} {s : St} (I : Inv S T E k s) (hv : vis S T v = true) (hlt : v < E) (hc : cnt S T v + 1 = min k (cnt S T E)) : s.raw = v + 1 := by
  have hc1 : cnt S T (v + 1) = min k (cnt S T E) := by simp [cnt, hv, hc]
  exact (I.unique (r := v + 1) (c := min k (cnt S T E)) hlt hc1 (.inr (by simpa using hv)) (Nat.min_le_left _ _) (fun h => none_vis (by omega))).1
theorem Inv.next_is {k v : Nat} {s : St} (hF : First T E) (I : Inv S T E k s) (h : (v < E ∧ vis S T v = true ∧ cnt S T v = s.cur) ∨ (v = E ∧ cnt S T E ≤ s.cur)) : s.next = v := by
  rw [I.next]
  have key : ∀ m, m ≤ E → cnt S T m ≤ s.cur → ∀ i, s.raw ≤ i → i < m → isStop S T i = false := fun m hm hcm i h1 h2 => by
    have hv := none_vis (S := S) (T := T) (r := s.raw) (j := m) (by rw [I.cur]; exact hcm) i h1 h2
    have hne := hF.none i (by omega)
    unfold vis at hv
    unfold isStop
    simp only [bne_iff_ne.2 hne, Bool.true_and, Bool.not_eq_false'] at hv
    simp [hne, hv]
  rcases h with ⟨h1, h2, h3⟩ | ⟨h1, h3⟩
  · have hr : s.raw ≤ v := by
      rcases Nat.lt_or_ge v s.raw with g | g
      · have := cnt_mono (S := S) (T := T) (show v + 1 ≤ s.raw from g)
        simp [cnt, h2] at this
        rw [I.cur] at this
        omega
      · exact g
    exact stop_unique hr (key v (by omega) (by omega)) (stop_of_vis h2)
  · subst h1
    exact stop_unique I.raw (key v (Nat.le_refl _) h3) (by simp [isStop, hF.eof])
theorem Inv.next_lt {k : Nat} {s : St} (hF : First T E) (I : Inv S T E k s) : (s.next = E ∧ at_ T s.next = -1) ∨ (s.next < E ∧ at_ T s.next ≠ -1) := by
  rcases Nat.lt_or_ge s.next E with g | g
  · exact .inr ⟨g, hF.none _ g⟩
  · have : s.next = E := by have := I.le; omega
    exact .inl ⟨this, by rw [this]; exact hF.eof⟩
theorem ff_cur {r : Int} {s : St} (hc : cnt S T s.raw = s.cur) (h : s.raw ≤ E) : (s.ff S T E r).cur = cnt S T (ffRaw E r s.raw) := by
  have := cnt_mono (S := S) (T := T) (le_ffRaw (r := r) h)
  show s.cur + _ = _
  omega
end
end PL
theorem t4_first' (z : List Int) (h : ∀ x ∈ z, x ≠ -1) : PL.First (types (t4 z)) z.length := by
  rw [t4_types]
  refine ⟨by unfold PL.at_; simp, fun i hi => ?_⟩
  unfold PL.at_
  rw [List.getD_eq_getElem?_getD, List.getElem?_append_left hi, List.getElem?_eq_getElem hi]
  exact h _ (by simp)
theorem t4_type_at (z : List Int) (i : Nat) (h : i < z.length) : PL.at_ (types (t4 z)) i = z.getD i 0 := by
  rw [t4_types]
  unfold PL.at_
  rw [List.getD_eq_getElem?_getD, List.getElem?_append_left h, List.getD_eq_getElem?_getD, List.getElem?_eq_getElem h]
  rfl
/-- The list of tokens at a visible count: vis at index i of bytes. -/
theorem t4_vis (S : Int → Bool) (z : List Int) (i : Nat) (h : i < z.length) (hz : z.getD i 0 ≠ -1) : PL.vis S (types (t4 z)) i = !S (z.getD i 0) := by
  unfold PL.vis
  rw [t4_type_at z i h, bne_iff_ne.2 hz, Bool.true_and]

/-! ### the table of elided bytes -/
/-- The table whose entry i tells whether i is among the first j of z. -/
def tabL (z : List Int) (j : Nat) : List Value := (List.range 256).map fun (i : Nat) => .bool ((z.take j).contains (i : Int))
theorem tabL_length (z : List Int) (j : Nat) : (tabL z j).length = 256 := by simp [tabL]
theorem tabL_at (z : List Int) (j i : Nat) (h : i < 256) : (tabL z j)[i]? = some (.bool ((z.take j).contains (i : Int))) := by
  simp [tabL, List.getElem?_range h]
theorem tabL_zero (z : List Int) : tabL z 0 = List.replicate 256 (.bool false) := by
  apply List.ext_getElem?
  intro i
  rcases Nat.lt_or_ge i 256 with h | h
  · rw [tabL_at z 0 i h, List.getElem?_replicate, if_pos h, List.take_zero]; rfl
  · rw [List.getElem?_eq_none (by rw [tabL_length]; exact h), List.getElem?_eq_none (by rw [List.length_replicate]; exact h)]
theorem tabL_set (z : List Int) (j b : Nat) (hj : j < z.length) (hb : z.getD j 0 = (b : Int)) : (tabL z j).set b (.bool true) = tabL z (j + 1) := by
  have e : z[j] = (b : Int) := by rw [← hb, List.getD_eq_getElem?_getD, List.getElem?_eq_getElem hj]; rfl
  apply List.ext_getElem?
  intro i
  rw [List.getElem?_set, tabL_length]
  rcases Nat.lt_or_ge i 256 with h | h
  · rw [tabL_at _ _ _ h, tabL_at _ _ _ h, List.take_succ_eq_append_getElem hj, e]
    by_cases hbi : b = i
    · subst hbi; simp [h]
    · rw [if_neg hbi]
      congr 2
      simp only [List.contains_eq_any_beq, List.any_append, List.any_cons, List.any_nil, Bool.or_false]
      have : ((i : Int) == (b : Int)) = false := by simp; omega
      rw [this, Bool.or_false]
  · rw [List.getElem?_eq_none (by rw [tabL_length]; exact h), List.getElem?_eq_none (by rw [tabL_length]; exact h)]
    split
    · rw [if_neg (by omega)]
    · rfl
/-- The whole table. -/
def tabA (z : List Int) : Array Value := (tabL z z.length).toArray
theorem tabA_size (z : List Int) : (tabA z).size = 256 := by simp [tabA, tabL_length]
theorem tabA_at (z : List Int) (i : Nat) (h : i < 256) : (tabA z)[i]? = some (.bool (z.contains (i : Int))) := by
  unfold tabA
  rw [List.getElem?_toArray, tabL_at _ _ _ h, List.take_length]
end Go.Proofs.Ytnbpddcgpjjibaa
