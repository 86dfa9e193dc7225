/-
  Slices of TermSpec: what they read as, copies of them, and the sequence that zzSeq builds. Conditions: sizes as stated.
-/
import Derived.Test.YtjneojglklbbfaaS6
import Derived.Deep.Slices
import Derived.Deep.Fields
import Derived.ChangeSame
namespace Go.Proofs.Ytjneojglklbbfaa
open Go.RowKit
set_option linter.unusedSimpArgs false
set_option linter.unusedVariables false
structure Spec where
  k : Int
  s : ByteArray
  r : Int
def zeroSpec : Spec := ⟨0, ByteArray.empty, 0⟩
def Spec.ok (x : Spec) : Prop := (0 ≤ x.k ∧ x.k ≤ 255) ∧ x.s.size ≤ maxLen ∧ 0 ≤ x.r ∧ x.r ≤ 255
def Spec.cells (x : Spec) : List Value := [.int .u8 x.k, .string x.s, .int .u8 x.r]
def Spec.text (x : Spec) : ByteArray := leafText (x.k % 3) (specText x.s) ++ PS.repT x.r
/-- The slice '.slice A n c' reads as the specs zs. -/
def Specs (w : World) (A : Option Addr) (n : Nat) (zs : List Spec) : Prop :=
  zs.length = n ∧ n ≤ maxLen ∧ (∀ z ∈ zs, z.ok) ∧
  ((n = 0 ∧ zs = []) ∨ ∃ b off, A = some ⟨b, off, none⟩ ∧ b < w.heap.size ∧ ∀ i, i < n → w.cell? ⟨b, off + i * 3, none⟩ = some (.int .u8 (zs.getD i zeroSpec).k) ∧
    w.cell? ⟨b, off + i * 3 + 1, none⟩ = some (.string (zs.getD i zeroSpec).s) ∧ w.cell? ⟨b, off + i * 3 + 1 + 1, none⟩ = some (.int .u8 (zs.getD i zeroSpec).r))
theorem Specs.later {w w' : World} {A : Option Addr} {n : Nat} {zs : List Spec} (h : Specs w A n zs) (hb : Below w.heap.size w w') : Specs w' A n zs := by
  obtain ⟨h1, h2, h3, h4⟩ := h
  refine ⟨h1, h2, h3, ?_⟩
  rcases h4 with h4 | ⟨b, off, e, hlt, hc⟩
  · exact .inl h4
  · exact .inr ⟨b, off, e, Nat.lt_of_lt_of_le hlt hb.size, fun i hi => ⟨(hb.cell (p := ⟨b, off + i * 3, none⟩) hlt).trans (hc i hi).1, (hb.cell (p := ⟨b, off + i * 3 + 1, none⟩) hlt).trans (hc i hi).2.1, (hb.cell (p := ⟨b, off + i * 3 + 1 + 1, none⟩) hlt).trans (hc i hi).2.2⟩⟩
theorem Specs.split {w : World} {A : Option Addr} {n : Nat} {zs : List Spec} (h : Specs w A n zs) :
    n ≤ 0 ∨ ∃ b off, A = some ⟨b, off, none⟩ ∧ Hid (∀ i, i < n → w.cell? ⟨b, off + i * 3, none⟩ = some (.int .u8 (zs.getD i zeroSpec).k) ∧
    w.cell? ⟨b, off + i * 3 + 1, none⟩ = some (.string (zs.getD i zeroSpec).s) ∧ w.cell? ⟨b, off + i * 3 + 1 + 1, none⟩ = some (.int .u8 (zs.getD i zeroSpec).r)) := by
  obtain ⟨h1, h2, h3, h4⟩ := h
  rcases h4 with h4 | ⟨b, off, e, _, hc⟩
  · exact .inl (by omega)
  · exact .inr ⟨b, off, e, hc⟩
theorem Specs.okAt {w : World} {A : Option Addr} {n : Nat} {zs : List Spec} (h : Specs w A n zs) (i : Nat) : (zs.getD i zeroSpec).ok := by
  rcases Nat.lt_or_ge i zs.length with g | g
  · rw [List.getD_eq_getElem?_getD, List.getElem?_eq_getElem g]
    exact h.2.2.1 _ (by simp)
  · rw [List.getD_eq_getElem?_getD, List.getElem?_eq_none g]
    exact ⟨⟨Int.le_refl _, by decide⟩, Nat.zero_le _, Int.le_refl _, by decide⟩
section
variable {H : Type} {enc : TypeId × Value → H} {P : Program} {w : World}
open Go.ChangeShapes Go.WideShapes Go.Deep in
theorem isSpecs_of {t e : TypeId} {f0 f1 f2 : Field} {A : Option Addr} {n c : Nat} {d : DataW H} {p : List MemPlace} (ht : P.underlying t = some (.slice e)) (he : P.underlying e = some (.struct #[f0, f1, f2])) (hone : oneCellFields P #[f0, f1, f2] = true) (hC : P.cellsOf e = 3)
    (u0 : P.underlying f0.type = some (.int .u8)) (u1 : P.underlying f1.type = some .string) (u2 : P.underlying f2.type = some (.int .u8))
    (h : DataW.Trod enc P w 0 (fun _ => true) true t (.slice A n c) d p) : ∃ zs, Specs w A n zs := by
  obtain ⟨fuel, hf⟩ := h
  rcases open_slice ht hf with ⟨h0, _⟩ | ⟨a, len, cap, m, k, D, Pl, hcs, hb, hl, hm, hmm, hx, hi⟩
  · simp [Value.cells] at h0
    obtain ⟨rfl, rfl, rfl⟩ := h0
    exact ⟨[], rfl, Nat.zero_le _, by simp, .inl ⟨rfl, rfl⟩⟩
  · simp [Value.cells] at hcs
    obtain ⟨rfl, rfl, rfl⟩ := hcs
    have hle : n ≤ m := by rw [hmm]; simp; exact hl
    have key : ∀ i, i < n → ∃ x : Spec, x.ok ∧ w.cell? (a.add (i * 3)) = some (.int .u8 x.k) ∧ w.cell? (a.add (i * 3 + 1)) = some (.string x.s) ∧ w.cell? (a.add (i * 3 + 2)) = some (.int .u8 x.r) := by
      intro i him
      obtain ⟨cs', hc, ht'⟩ := hi i (by omega)
      rw [hC] at hc
      obtain ⟨ys, n', _, hy, hlen, hyl, hf'⟩ := DataW.trod_struct he ht'
      obtain ⟨_, hcl, hat⟩ := World.cells?_some hc
      match cs', hcl with
      | [c0, c1, c2], _ =>
        obtain ⟨o0, k0⟩ := hone_of hone 0 f0 rfl
        obtain ⟨o1, k1⟩ := hone_of hone 1 f1 rfl
        obtain ⟨o2, k2⟩ := hone_of hone 2 f2 rfl
        have g0 := hf' 0 f0 rfl
        have g1 := hf' 1 f1 rfl
        have g2 := hf' 2 f2 rfl
        rw [o0, k0] at g0
        rw [o1, k1] at g1
        rw [o2, k2] at g2
        match ys, hyl with
        | [y0, y1, y2], _ =>
          obtain ⟨a0, e0, _, w0⟩ := DataW.trod_int u0 g0
          obtain ⟨a1, e1, _, w1⟩ := DataW.trod_string u1 g1
          obtain ⟨a2, e2, _, w2⟩ := DataW.trod_int u2 g2
          simp at e0 e1 e2
          subst e0 e1 e2
          have q0 := hat 0 (by omega)
          have q1 := hat 1 (by omega)
          have q2 := hat 2 (by omega)
          rw [Go.Deep.add_add] at q0 q1 q2
          exact ⟨⟨a0, a1, a2⟩, ⟨bounds_u8 w0, w1, bounds_u8 w2⟩, q0, q1, q2⟩
    have hzs : ∃ zs : List Spec, zs.length = n ∧ ∀ i, i < n → (zs.getD i zeroSpec).ok ∧ w.cell? (a.add (i * 3)) = some (.int .u8 (zs.getD i zeroSpec).k) ∧ w.cell? (a.add (i * 3 + 1)) = some (.string (zs.getD i zeroSpec).s) ∧ w.cell? (a.add (i * 3 + 2)) = some (.int .u8 (zs.getD i zeroSpec).r) := by
      refine ⟨(List.range n).map (fun i => if hi : i < n then (key i hi).choose else zeroSpec), by simp, fun i hin => ?_⟩
      have e : ((List.range n).map (fun i => if hi : i < n then (key i hi).choose else zeroSpec)).getD i zeroSpec = (key i hin).choose := by
        rw [List.getD_eq_getElem?_getD, List.getElem?_eq_getElem (by simpa using hin)]
        simp [hin]
      rw [e]
      exact (key i hin).choose_spec
    obtain ⟨zs, hzl, hz⟩ := hzs
    refine ⟨zs, hzl, by omega, fun z hz' => ?_, ?_⟩
    · obtain ⟨i, hil, rfl⟩ := List.getElem_of_mem hz'
      have := (hz i (by omega)).1
      rw [List.getD_eq_getElem?_getD, List.getElem?_eq_getElem hil] at this
      exact this
    · rcases Nat.eq_zero_or_pos n with h0 | h0
      · subst h0; exact .inl ⟨rfl, List.eq_nil_of_length_eq_zero hzl⟩
      · obtain ⟨b, off, spot⟩ := a
        have hc0 := (hz 0 h0).2.1
        have hspot : spot = none := by simpa [Addr.add] using World.cell?_spot hc0
        subst hspot
        have e1 : ∀ i, (⟨b, off, none⟩ : Addr).add i = ⟨b, off + i, none⟩ := fun i => by unfold Addr.add; by_cases h : i = 0 <;> simp [h]
        refine .inr ⟨b, off, rfl, World.block_lt_of_cell? _ _ hc0, fun i hi => ?_⟩
        have h := hz i hi
        rw [e1, e1, e1] at h
        exact ⟨h.2.1, h.2.2.1, h.2.2.2⟩
end
/-! ### cells of specs -/
def specsCells : List Spec → List Value
  | [] => []
  | x :: r => x.cells ++ specsCells r
theorem specsCells_length (l : List Spec) : (specsCells l).length = l.length * 3 := by
  induction l with
  | nil => rfl
  | cons x r ih => simp only [specsCells, List.length_append, ih, List.length_cons]; simp [Spec.cells]; omega
theorem specsCells_append (a b : List Spec) : specsCells (a ++ b) = specsCells a ++ specsCells b := by
  induction a with
  | nil => rfl
  | cons x r ih => simp [specsCells, ih]
theorem specsCells_at (l : List Spec) (i j : Nat) (hj : j < 3) (hi : i < l.length) : (specsCells l)[i * 3 + j]? = (l.getD i zeroSpec).cells[j]? := by
  induction l generalizing i with
  | nil => simp at hi
  | cons x r ih =>
    cases i with
    | zero =>
      simp only [specsCells, Nat.zero_mul, Nat.zero_add]
      rw [List.getElem?_append_left (by simp [Spec.cells]; omega)]; simp
    | succ i =>
      simp only [specsCells]
      rw [List.getElem?_append_right (by simp [Spec.cells]; omega)]
      have e : (i + 1) * 3 + j - x.cells.length = i * 3 + j := by simp [Spec.cells]; omega
      rw [e, ih i (by simpa using hi)]
      simp
theorem Specs.of_row {w : World} {g n : Nat} {t : TypeId} {zs : List Spec} (h : Row w g t (specsCells zs)) (hl : zs.length = n) (hm : n ≤ maxLen) (hk : ∀ z ∈ zs, z.ok) : Specs w (some ⟨g, 0, none⟩) n zs := by
  refine ⟨hl, hm, hk, ?_⟩
  refine .inr ⟨g, 0, rfl, h.lt, fun i hi => ⟨?_, ?_, ?_⟩⟩
  · have := h.cell (j := i * 3 + 0) (specsCells_at zs i 0 (by omega) (by omega)); simpa using this
  · have := h.cell (j := i * 3 + 1) (specsCells_at zs i 1 (by omega) (by omega)); simpa using this
  · have := h.cell (j := i * 3 + 2) (specsCells_at zs i 2 (by omega) (by omega)); simpa using this
end Go.Proofs.Ytjneojglklbbfaa
