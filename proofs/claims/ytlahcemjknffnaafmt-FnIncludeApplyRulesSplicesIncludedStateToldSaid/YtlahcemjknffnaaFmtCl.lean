/-
  A contract shape for functions that copy a slice of strings, and for boolean guards. Conditions: as stated.
-/
import Derived.Test.YtlahcemjknffnaaFmtRows
import Derived.Test.YtlahcemjknffnaaFmtKit
import Derived.Test.YtlahcemjknffnaaFmtStr
import Derived.WalkKit
import Derived.WalkSpells
import Derived.WalkLawsBesides
import Derived.Outline
import Derived.Deep.RegionHeld3
import Derived.Deep.QuietTactic
import Derived.BigQuiet
import Derived.Deep.LoopGhost
import Derived.Deep.RegionWith
import Derived.Lib.LazyBuf
namespace Go.Proofs.YtlahcemjknffnaaFmt
open Go.RowKit
set_option linter.unusedSimpArgs false
set_option linter.unusedVariables false
theorem Row.set {w : World} {g : Nat} {t : TypeId} {xs : List Value} (h : Row w g t xs) (i : Nat) (u : Value) : Row (w.setCell ⟨g, i, none⟩ u) g t (xs.set i u) := by
  obtain ⟨cur, hc, hx⟩ := h
  refine ⟨cur.setIfInBounds i u, by simp [World.setCell, Array.getElem?_modify, hc], fun j v hv => ?_⟩
  rw [List.getElem?_set] at hv
  split at hv
  · rename_i hij
    subst hij
    split at hv
    · rename_i hlt
      have := hx i xs[i] (List.getElem?_eq_getElem hlt)
      have hsz : i < cur.size := (Array.getElem?_eq_some_iff.1 this).1
      rw [Array.getElem?_setIfInBounds, if_pos rfl, if_pos hsz]
      exact hv
    · cases hv
  · rename_i hij
    rw [Array.getElem?_setIfInBounds, if_neg hij]
    exact hx j v hv
def BoolAny (w : World) (e : Ending) (w' : World) : Prop := ∃ b, e = .returned (.bool b) ∧ w = w'
theorem strInfo : (Tryf.prog.info? 9).map (fun i => (i.zero, i.size, i.bytes)) = some (some (Value.string ByteArray.empty), 1, 16) := by kernel_rfl
/-- A slice in new memory that reads as zs. -/
def ClonePost (w : World) (n : Nat) (zs : List ByteArray) (e : Ending) (w' : World) : Prop := ∃ A' c', e = .returned (.slice A' n c') ∧ Strs w' A' n zs ∧ Below w.heap.size w w'
/-- The row behind j rounds. -/
def cloneMid (zs : List ByteArray) (j : Nat) : List Value := (zs.take j).map Value.string ++ List.replicate (zs.length - j) (Value.string ByteArray.empty)
theorem cloneMid_length (zs : List ByteArray) (j : Nat) (h : j ≤ zs.length) : (cloneMid zs j).length = zs.length := by simp [cloneMid]; omega
theorem cloneMid_set (zs : List ByteArray) (j : Nat) (h : j < zs.length) : (cloneMid zs j).set j (.string (zs.getD j ByteArray.empty)) = cloneMid zs (j + 1) := by
  unfold cloneMid
  rw [List.set_append_right _ _ (by simp; omega), PS.take_snoc zs j h]
  have e : j - ((zs.take j).map Value.string).length = 0 := by simp; omega
  rw [e, show zs.length - j = (zs.length - (j + 1)) + 1 by omega, List.replicate_succ, List.set_cons_zero]
  simp
theorem cloneMid_at (zs : List ByteArray) (j i : Nat) (h : i < zs.length) : ∃ s, (cloneMid zs j)[i]? = some (.string s) := by
  unfold cloneMid
  rcases Nat.lt_or_ge i j with g | g
  · exact ⟨zs.getD i ByteArray.empty, by rw [List.getElem?_append_left (by simp; omega)]; simp [List.getElem?_take, g, List.getElem?_eq_getElem h]⟩
  · exact ⟨ByteArray.empty, by rw [List.getElem?_append_right (by simp; omega), List.getElem?_replicate, if_pos (by simp; omega)]⟩
theorem cloneMid_full (zs : List ByteArray) (i : Nat) (h : i < zs.length) : (cloneMid zs zs.length)[i]? = some (.string (zs.getD i ByteArray.empty)) := by
  unfold cloneMid
  rw [List.getElem?_append_left (by simp; omega)]
  simp [List.getElem?_eq_getElem h]
end Go.Proofs.YtlahcemjknffnaaFmt
