/-
  Plain facts for FnIncludeApplyRulesSplicesIncludedState: which names a key has, where a name lies. Conditions: as stated.
-/
import Derived.Test.YtlahcemjknffnaaFmtM6
namespace Go.Proofs.YtlahcemjknffnaaFmt
open Go.RowKit
set_option linter.unusedSimpArgs false
set_option linter.unusedVariables false
namespace fnInc
open fnValidatePush
theorem upd_same (N : ByteArray → Option (List ByteArray)) (s : ByteArray) (z : List ByteArray) : upd N s z s = some z := by unfold upd; simp only [eqB_self, if_true]
theorem upd_other (N : ByteArray → Option (List ByteArray)) (s : ByteArray) (z : List ByteArray) {x : ByteArray} (h : x ≠ s) : upd N s z x = N x := by unfold upd; simp only [eqB_ne h, Bool.false_eq_true, if_false]
noncomputable def nm (z0 : List ByteArray) (z1 : List (List ByteArray)) : Nat → ByteArray → Option (List ByteArray)
  | 0 => fun _ => none
  | j + 1 => upd (nm z0 z1 j) (z0.getD j ByteArray.empty) (z1.getD j [])
noncomputable def inx (z0 : List ByteArray) (t : ByteArray) : Nat → Int
  | 0 => -1
  | j + 1 => if eqB (z0.getD j ByteArray.empty) t then (j : Int) else inx z0 t j
/-- No name lies twice among the first n. -/
def Dist (z0 : List ByteArray) (n : Nat) : Prop := ∀ i j, i < n → j < n → z0.getD i ByteArray.empty = z0.getD j ByteArray.empty → i = j
theorem inx_nm (z0 : List ByteArray) (z1 : List (List ByteArray)) (t : ByteArray) (j : Nat) : (inx z0 t j = -1 ∧ nm z0 z1 j t = none) ∨ ∃ p : Nat, p < j ∧ inx z0 t j = (p : Int) ∧ z0.getD p ByteArray.empty = t ∧ nm z0 z1 j t = some (z1.getD p []) := by
  induction j with
  | zero => exact .inl ⟨rfl, rfl⟩
  | succ j ih =>
    by_cases h : z0.getD j ByteArray.empty = t
    · refine .inr ⟨j, by omega, ?_, h, ?_⟩
      · show (if eqB (z0.getD j ByteArray.empty) t then (j : Int) else inx z0 t j) = _
        rw [h, eqB_self, if_pos rfl]
      · show upd (nm z0 z1 j) (z0.getD j ByteArray.empty) (z1.getD j []) t = _
        rw [h]; exact upd_same _ _ _
    · have e1 : inx z0 t (j + 1) = inx z0 t j := by
        show (if eqB (z0.getD j ByteArray.empty) t then (j : Int) else inx z0 t j) = _
        rw [eqB_ne h, if_neg (by decide)]
      have e2 : nm z0 z1 (j + 1) t = nm z0 z1 j t := upd_other _ _ _ (fun e => h e.symm)
      rw [e1, e2]
      rcases ih with ⟨h1, h2⟩ | ⟨p, h1, h2, h3, h4⟩
      · exact .inl ⟨h1, h2⟩
      · exact .inr ⟨p, by omega, h2, h3, h4⟩
theorem nm_at (z0 : List ByteArray) (z1 : List (List ByteArray)) (n i : Nat) (hd : Dist z0 n) (hi : i < n) : nm z0 z1 n (z0.getD i ByteArray.empty) = some (z1.getD i []) := by
  rcases inx_nm z0 z1 (z0.getD i ByteArray.empty) n with ⟨h1, h2⟩ | ⟨p, h1, h2, h3, h4⟩
  · exfalso
    have key : ∀ m, m ≤ n → i < m → inx z0 (z0.getD i ByteArray.empty) m ≠ -1 := by
      intro m
      induction m with
      | zero => intro _ h; omega
      | succ m ih =>
        intro hm him
        show (if eqB (z0.getD m ByteArray.empty) (z0.getD i ByteArray.empty) then (m : Int) else inx z0 (z0.getD i ByteArray.empty) m) ≠ -1
        by_cases e : z0.getD m ByteArray.empty = z0.getD i ByteArray.empty
        · rw [e, eqB_self, if_pos rfl]; omega
        · rw [eqB_ne e, if_neg (by decide)]
          refine ih (by omega) ?_
          rcases Nat.lt_or_ge i m with g | g
          · exact g
          · obtain rfl : i = m := by omega
            exact absurd rfl e
    exact key n (Nat.le_refl _) hi h1
  · rw [h4, hd p i h1 hi h3]
theorem nm_fresh (z0 : List ByteArray) (z1 : List (List ByteArray)) (j n : Nat) (hd : Dist z0 n) (hj : j < n) : nm z0 z1 j (z0.getD j ByteArray.empty) = none := by
  rcases inx_nm z0 z1 (z0.getD j ByteArray.empty) j with ⟨h1, h2⟩ | ⟨p, h1, h2, h3, h4⟩
  · exact h2
  · have := hd p j (by omega) hj h3
    omega
/-- The row that is wanted of state i. -/
noncomputable def want (z1 : List (List ByteArray)) (hit : Bool) (at_ r p i : Nat) : List ByteArray :=
  if hit = true ∧ i = at_ then (z1.getD at_ []).take r ++ (z1.getD p [] ++ (z1.getD at_ []).drop (r + 1)) else z1.getD i []
theorem upd_want (z0 : List ByteArray) (z1 : List (List ByteArray)) (n at_ r p i : Nat) (hd : Dist z0 n) (hi : i < n) (ha : at_ < n) :
    upd (nm z0 z1 n) (z0.getD at_ ByteArray.empty) ((z1.getD at_ []).take r ++ (z1.getD p [] ++ (z1.getD at_ []).drop (r + 1))) (z0.getD i ByteArray.empty) = some (want z1 true at_ r p i) := by
  unfold want
  by_cases h : i = at_
  · subst h; rw [upd_same, if_pos ⟨rfl, rfl⟩]
  · rw [upd_other _ _ _ (fun e => h (hd i at_ hi ha e)), if_neg (fun e => h e.2)]
    exact nm_at z0 z1 n i hd hi
theorem nm_want (z0 : List ByteArray) (z1 : List (List ByteArray)) (n at_ r p i : Nat) (hd : Dist z0 n) (hi : i < n) : nm z0 z1 n (z0.getD i ByteArray.empty) = some (want z1 false at_ r p i) := by
  unfold want
  rw [if_neg (fun e => Bool.noConfusion e.1)]
  exact nm_at z0 z1 n i hd hi
end fnInc
end Go.Proofs.YtlahcemjknffnaaFmt
