/-
  Slices of slices that came in: what they read as. Conditions: none beyond those stated.
-/
import Derived.Test.YtjneojglklbbfaaS9
namespace Go.Proofs.Ytjneojglklbbfaa
open Go.RowKit
set_option linter.unusedSimpArgs false
set_option linter.unusedVariables false
/-- The slice of slices '.slice A n c' reads as the lists zss; S says how an inner slice reads. -/
def Alts {α : Type} (S : World → Option Addr → Nat → List α → Prop) (w : World) (A : Option Addr) (n : Nat) (zss : List (List α)) : Prop :=
  zss.length = n ∧ n ≤ maxLen ∧ ((n = 0 ∧ zss = []) ∨ ∃ b off, A = some ⟨b, off, none⟩ ∧ b < w.heap.size ∧ ∀ i, i < n → ∃ Ai ni ci, w.cell? ⟨b, off + i, none⟩ = some (.slice Ai ni ci) ∧ S w Ai ni (zss.getD i []))
/-- S is kept over new memory. -/
def Kept {α : Type} (S : World → Option Addr → Nat → List α → Prop) : Prop := ∀ (w w' : World) (A : Option Addr) (n : Nat) (z : List α), S w A n z → Below w.heap.size w w' → S w' A n z
theorem Alts.later {α : Type} {S : World → Option Addr → Nat → List α → Prop} (hS : Kept S) {w w' : World} {A : Option Addr} {n : Nat} {zss : List (List α)} (h : Alts S w A n zss) (hb : Below w.heap.size w w') : Alts S w' A n zss := by
  obtain ⟨h1, h2, h4⟩ := h
  refine ⟨h1, h2, ?_⟩
  rcases h4 with h4 | ⟨b, off, e, hlt, hc⟩
  · exact .inl h4
  · refine .inr ⟨b, off, e, Nat.lt_of_lt_of_le hlt hb.size, fun i hi => ?_⟩
    obtain ⟨Ai, ni, ci, h5, h6⟩ := hc i hi
    exact ⟨Ai, ni, ci, (hb.cell (p := ⟨b, off + i, none⟩) hlt).trans h5, hS _ _ _ _ _ h6 hb⟩
theorem Alts.split {α : Type} {S : World → Option Addr → Nat → List α → Prop} {w : World} {A : Option Addr} {n : Nat} {zss : List (List α)} (h : Alts S w A n zss) :
    n ≤ 0 ∨ ∃ b off, A = some ⟨b, off, none⟩ ∧ Hid (∀ i, i < n → ∃ Ai ni ci, w.cell? ⟨b, off + i, none⟩ = some (.slice Ai ni ci) ∧ S w Ai ni (zss.getD i [])) := by
  obtain ⟨h1, h2, h4⟩ := h
  rcases h4 with h4 | ⟨b, off, e, _, hc⟩
  · exact .inl (by omega)
  · exact .inr ⟨b, off, e, hc⟩
section
variable {H : Type} {enc : TypeId × Value → H} {P : Program} {w : World}
open Go.ChangeShapes Go.WideShapes Go.Deep in
theorem isAlts_of {α : Type} {S : World → Option Addr → Nat → List α → Prop} {t e e2 : TypeId} {A : Option Addr} {n c : Nat} {d : DataW H} {p : List MemPlace} (ht : P.underlying t = some (.slice e)) (he : P.underlying e = some (.slice e2)) (hC : P.cellsOf e = 1)
    (hin : ∀ (A : Option Addr) (n c : Nat) (d : DataW H) (p : List MemPlace), DataW.Trod enc P w 0 (fun _ => true) true e (.slice A n c) d p → ∃ zs, S w A n zs)
    (h : DataW.Trod enc P w 0 (fun _ => true) true t (.slice A n c) d p) : ∃ zss, Alts S w A n zss := by
  obtain ⟨fuel, hf⟩ := h
  rcases open_slice ht hf with ⟨h0, _⟩ | ⟨a, len, cap, m, k, D, Pl, hcs, hb, hl, hm, hmm, hx, hi⟩
  · simp [Value.cells] at h0
    obtain ⟨rfl, rfl, rfl⟩ := h0
    exact ⟨[], rfl, Nat.zero_le _, .inl ⟨rfl, rfl⟩⟩
  · simp [Value.cells] at hcs
    obtain ⟨rfl, rfl, rfl⟩ := hcs
    have hle : n ≤ m := by rw [hmm]; simp; exact hl
    have key : ∀ i, i < n → ∃ x : List α, ∃ Ai ni ci, w.cell? (a.add i) = some (.slice Ai ni ci) ∧ S w Ai ni x := by
      intro i him
      obtain ⟨cs', hc, ht'⟩ := hi i (by omega)
      rw [hC, Nat.mul_one] at hc
      obtain ⟨_, hcl, hat⟩ := World.cells?_some hc
      match cs', hcl with
      | [c0], _ =>
        have q0 := hat 0 (by omega)
        rw [Go.Deep.add_add, Nat.add_zero] at q0
        have hsl : ∃ Ai ni ci, c0 = .slice Ai ni ci := by
          rcases open_slice he ht' with ⟨h0, _⟩ | ⟨a', len', cap', m', k', D', Pl', hcs', _⟩
          · simp at h0; exact ⟨_, _, _, h0⟩
          · simp at hcs'; exact ⟨_, _, _, hcs'⟩
        obtain ⟨Ai, ni, ci, rfl⟩ := hsl
        obtain ⟨zs, hz⟩ := hin Ai ni ci _ _ ⟨_, by simpa [Value.cells] using ht'⟩
        exact ⟨zs, Ai, ni, ci, by simpa using q0, hz⟩
    have hzs : ∃ zs : List (List α), zs.length = n ∧ ∀ i, i < n → ∃ Ai ni ci, w.cell? (a.add i) = some (.slice Ai ni ci) ∧ S w Ai ni (zs.getD i []) := by
      refine ⟨(List.range n).map (fun i => if hi : i < n then (key i hi).choose else []), by simp, fun i hin => ?_⟩
      have e : ((List.range n).map (fun i => if hi : i < n then (key i hi).choose else [])).getD i [] = (key i hin).choose := by
        rw [List.getD_eq_getElem?_getD, List.getElem?_eq_getElem (by simpa using hin)]
        simp [hin]
      rw [e]
      exact (key i hin).choose_spec
    obtain ⟨zs, hzl, hz⟩ := hzs
    refine ⟨zs, hzl, by omega, ?_⟩
    rcases Nat.eq_zero_or_pos n with h0 | h0
    · subst h0; exact .inl ⟨rfl, List.eq_nil_of_length_eq_zero hzl⟩
    · obtain ⟨b, off, spot⟩ := a
      obtain ⟨A0, n0, c0, hc0, _⟩ := hz 0 h0
      have hspot : spot = none := by simpa [Addr.add] using World.cell?_spot hc0
      subst hspot
      have e1 : ∀ i, (⟨b, off, none⟩ : Addr).add i = ⟨b, off + i, none⟩ := fun i => by unfold Addr.add; by_cases h : i = 0 <;> simp [h]
      refine .inr ⟨b, off, rfl, World.block_lt_of_cell? _ _ hc0, fun i hi => ?_⟩
      have h := hz i hi
      rw [e1] at h
      exact h
end
end Go.Proofs.Ytjneojglklbbfaa
