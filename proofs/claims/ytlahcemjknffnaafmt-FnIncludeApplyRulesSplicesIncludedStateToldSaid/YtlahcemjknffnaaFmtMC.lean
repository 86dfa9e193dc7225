/-
  Five cells of a rule stored into a row that the call owns. Conditions: within the row.
-/
import Derived.Test.YtlahcemjknffnaaFmtM7
namespace Go.Proofs.YtlahcemjknffnaaFmt
open Go.RowKit
set_option linter.unusedSimpArgs false
set_option linter.unusedVariables false
namespace fnInc
theorem own_set {w : World} {base size n g c i : Nat} {t : TypeId} {xs : List Value} (h : w.ownsRow base t size (.slice (some ⟨g, 0, none⟩) n c) n xs) (u : Value) : (w.setCell ⟨g, i, none⟩ u).ownsRow base t size (.slice (some ⟨g, 0, none⟩) n c) n (xs.set i u) := by
  obtain ⟨hl, hv⟩ := h
  refine ⟨by rw [List.length_set]; exact hl, ?_⟩
  rcases hv with ⟨hv, -⟩ | ⟨g', cap, cur, hv, hbg, hg, h2, h3, h4, h5⟩
  · cases hv
  injection hv with e1 e2 e3
  injection e1 with e1
  injection e1 with e1
  subst e1
  subst e3
  refine .inr ⟨g, c, cur.setIfInBounds i u, rfl, hbg, by simp [World.setCell, Array.getElem?_modify, hg], h2, h3, by simpa using h4, ?_⟩
  rw [← h5]
  simp [List.take_set]
theorem rc_set (Z : List ByteArray) (x : ByteArray) (l : Nat) (h : l < Z.length) : (((((rc Z).set (l * 5) (.string x)).set (l * 5 + 1) (.string ByteArray.empty)).set (l * 5 + 2) .nilIface).set (l * 5 + 3) (.bool false)).set (l * 5 + 4) (.pointer none) = rc (Z.set l x) := by
  induction Z generalizing l with
  | nil => simp at h
  | cons y r ih =>
    cases l with
    | zero => simp [rc_cons, one]
    | succ l =>
      have h' : l < r.length := by simpa using h
      have e := ih l h'
      have k0 : (l + 1) * 5 = l * 5 + 1 + 1 + 1 + 1 + 1 := by omega
      rw [List.set_cons_succ, rc_cons, rc_cons, ← e, k0]
      simp only [one, List.cons_append, List.nil_append, List.set_cons_succ, Nat.add_assoc]
theorem rc_cell (z : List ByteArray) (j q : Nat) (hq : q < 5) (h : j < z.length) : (rc z)[j * 5 + q]? = (one (z.getD j ByteArray.empty))[q]? := by
  have h1 := rc_drop z j (Nat.le_of_lt h)
  have h2 : (rc z)[j * 5 + q]? = ((rc z).drop (j * 5))[q]? := by rw [List.getElem?_drop]
  rw [h2, h1, List.drop_eq_getElem_cons h, rc_cons, List.getD_eq_getElem?_getD, List.getElem?_eq_getElem h, List.getElem?_append_left (by simp [one]; exact hq)]
  rfl
theorem made_rc (n : Nat) : (madeCells (Value.cells (Value.agg #[.string ByteArray.empty, .string ByteArray.empty, .nilIface, .bool false, .pointer none])) (n * 5)).toList = rc (List.replicate n ByteArray.empty) := by
  apply List.ext_getElem?
  intro i
  rcases Nat.lt_or_ge i (n * 5) with h | h
  · have e := rc_cell (List.replicate n ByteArray.empty) (i / 5) (i % 5) (Nat.mod_lt _ (by omega)) (by simp; omega)
    rw [Nat.div_add_mod'] at e
    rw [e]
    have hq : (List.replicate n ByteArray.empty).getD (i / 5) ByteArray.empty = ByteArray.empty := by
      rw [List.getD_eq_getElem?_getD, List.getElem?_replicate, if_pos (by omega)]; rfl
    rw [hq]
    have hm : i % 5 < 5 := Nat.mod_lt _ (by omega)
    simp only [madeCells, Array.toList_map, List.getElem?_map, Array.toList_range, List.getElem?_range h, Option.map_some]
    show some ((#[.string ByteArray.empty, .string ByteArray.empty, .nilIface, .bool false, .pointer none] : Array Value)[i % 5]!) = _
    generalize i % 5 = r at hm
    match r, hm with
    | 0, _ | 1, _ | 2, _ | 3, _ | 4, _ => rfl
  · rw [List.getElem?_eq_none (by simp [madeCells]; omega), List.getElem?_eq_none (by rw [rc_length]; simp; omega)]
/-- The row behind l rounds. -/
def rmid (z : List ByteArray) (l : Nat) : List ByteArray := z.take l ++ List.replicate (z.length - l) ByteArray.empty
theorem rmid_length (z : List ByteArray) (l : Nat) (h : l ≤ z.length) : (rmid z l).length = z.length := by simp [rmid]; omega
theorem rmid_set (z : List ByteArray) (l : Nat) (h : l < z.length) : (rmid z l).set l (z.getD l ByteArray.empty) = rmid z (l + 1) := by
  unfold rmid
  rw [List.set_append_right _ _ (by simp; omega), PS.take_snoc z l h]
  have e : l - (z.take l).length = 0 := by simp; omega
  rw [e, show z.length - l = (z.length - (l + 1)) + 1 by omega, List.replicate_succ, List.set_cons_zero]
  simp
theorem rmid_full (z : List ByteArray) : rmid z z.length = z := by simp [rmid]
theorem rmid_zero (z : List ByteArray) : rmid z 0 = List.replicate z.length ByteArray.empty := by simp [rmid]
end fnInc
end Go.Proofs.YtlahcemjknffnaaFmt
