/-
  Words for memory that the walks of this seat share: blocks known whole, rows, sets kept as map[int]bool, slices that came in. Conditions: none.
-/
import Derived.Below
import Derived.Laws.OwnMore
import Derived.Laws.Rows
import Derived.Deep.Draws
import Derived.Deep.OwnRows
import Derived.Maps.OwnSet
import Derived.Maps.AppendAt
import Derived.WalkSpells
import Derived.SliceStrings
import Derived.ProofKit
import Derived.OwnWalk
import Derived.Lib.Hide
namespace Go.Proofs.YtlahcemjknffnaaFmt
open Go.RowKit

/-! ### worlds -/
theorem below_next {w W w' : World} (h : Below W.heap.size W w') (k : Below w.heap.size w W) : Below w.heap.size w w' := k.trans (h.mono k.size)
theorem below_drewN {B : Nat} {a w : World} (h : Below B a w) (n : Nat) : Below B a (w.drewN n) := ⟨h.os, h.tape, h.output, h.size, h.block⟩
theorem below_of_grown {B : Nat} {a w w' : World} {row : Option Nat} (h : Below B a w) (hg : w.grownBy w' row) (hB : B ≤ a.heap.size) (hr : ∀ k, row = some k → B ≤ k) : Below B a w' :=
  h.grown hg (Nat.le_trans hB h.size) hr
theorem grown_of_below {a w : World} (h : Below a.heap.size a w) (row : Option Nat) : a.grownBy w row := ⟨h.os, h.tape, h.output, h.size, fun i hi _ => h.block i hi⟩
theorem grown_drewN {a w : World} {row : Option Nat} (h : a.grownBy w row) (n : Nat) : a.grownBy (w.drewN n) row := ⟨h.os, h.tape, h.output, h.size, h.block⟩
theorem grown_drew {a w : World} {row : Option Nat} (h : a.grownBy w row) : a.grownBy w.drew row := ⟨h.os, h.tape, h.output, h.size, h.block⟩
theorem grown_alloc {a w : World} {row : Option Nat} (h : a.grownBy w row) (o : Obj) : a.grownBy (w.alloc o) row :=
  ⟨h.os, h.tape, h.output, Nat.le_trans h.size (by simp), fun i hi hne => (Below.heap_alloc w o i (Nat.lt_of_lt_of_le hi h.size)).trans (h.block i hi hne)⟩
theorem grown_setCell {a w : World} {g : Nat} (h : a.grownBy w (some g)) {p : Addr} (hp : p.block = g ∨ a.heap.size ≤ p.block) (u : Value) : a.grownBy (w.setCell p u) (some g) :=
  ⟨h.os, h.tape, h.output, by simpa [World.setCell] using h.size, fun i hi hne => (Below.heap_setCell w p u i (by
    rintro rfl
    rcases hp with hp | hp
    · exact hne (by rw [hp])
    · omega)).trans (h.block i hi hne)⟩

theorem cell_new' (W : World) (cs : Array Value) (t : TypeId) (b i : Nat) (h : b = W.heap.size) : (W.alloc (.cells cs t)).cell? ⟨b, i, none⟩ = cs[i]? := by
  subst h
  exact cell_of_row _ _ _ cs t (0, 0) (heap_alloc_new W _)

/-! ### a block known whole -/
def Blk (w : World) (g : Nat) (t : TypeId) (cs : Array Value) : Prop := w.heap[g]? = some (.cells cs t (0, 0))
section
variable {w w' : World} {g : Nat} {t : TypeId} {cs : Array Value}
theorem lt_of_some {α : Type} {xs : Array α} {i : Nat} {x : α} (h : xs[i]? = some x) : i < xs.size := (Array.getElem?_eq_some_iff.1 h).1
theorem Blk.lt (h : Blk w g t cs) : g < w.heap.size := lt_of_some h
theorem Blk.cell (h : Blk w g t cs) (i : Nat) : w.cell? ⟨g, i, none⟩ = cs[i]? := cell_of_row w g i cs t (0, 0) h
theorem Blk.frozen (h : Blk w g t cs) (i : Nat) : w.frozen? ⟨g, i, none⟩ = false := frozen_of_row w g i cs t h
theorem Blk.new (w : World) (t : TypeId) (cs : Array Value) : Blk (w.alloc (.cells cs t)) w.heap.size t cs := heap_alloc_new w _
theorem Blk.drew (h : Blk w g t cs) : Blk w.drew g t cs := h
theorem Blk.drewN (h : Blk w g t cs) (n : Nat) : Blk (w.drewN n) g t cs := h
theorem Blk.alloc (h : Blk w g t cs) (o : Obj) : Blk (w.alloc o) g t cs := (Below.heap_alloc w o g h.lt).trans h
theorem Blk.set (h : Blk w g t cs) (i : Nat) (u : Value) : Blk (w.setCell ⟨g, i, none⟩ u) g t (cs.setIfInBounds i u) := by
  unfold Blk at h ⊢
  simp [World.setCell, Array.getElem?_modify, h]
theorem Blk.far (h : Blk w g t cs) {p : Addr} (hp : g ≠ p.block) (u : Value) : Blk (w.setCell p u) g t cs := (Below.heap_setCell w p u g hp).trans h
theorem Blk.below {B : Nat} (h : Blk w g t cs) (hb : Below B w w') (hg : g < B) : Blk w' g t cs := (hb.block g hg).trans h
theorem Blk.later (h : Blk w g t cs) (hb : Below w.heap.size w w') : Blk w' g t cs := h.below hb h.lt
theorem Blk.grown {row : Option Nat} (h : Blk w g t cs) (hb : w.grownBy w' row) (hg : some g ≠ row) : Blk w' g t cs := (hb.block g h.lt hg).trans h
theorem Blk.ne {g' : Nat} {t' : TypeId} {cs' : Array Value} (h : Blk w g t cs) (h' : Blk w g' t' cs') (hne : t ≠ t') : g ≠ g' := by
  rintro rfl
  unfold Blk at h h'
  rw [h] at h'
  injection h' with h'
  injection h' with _ ht
  exact hne ht
end

/-! ### a row whose first cells are known -/
def Row (w : World) (g : Nat) (t : TypeId) (xs : List Value) : Prop := ∃ cur : Array Value, w.heap[g]? = some (.cells cur t (0, 0)) ∧ ∀ (j : Nat) (u : Value), xs[j]? = some u → cur[j]? = some u
section
variable {w w' : World} {g : Nat} {t : TypeId} {xs : List Value}
theorem Row.lt (h : Row w g t xs) : g < w.heap.size := by obtain ⟨_, h, _⟩ := h; exact lt_of_some h
theorem Row.cell (h : Row w g t xs) {j : Nat} {u : Value} (hj : xs[j]? = some u) : w.cell? ⟨g, j, none⟩ = some u := by
  obtain ⟨cur, h, hc⟩ := h
  rw [cell_of_row w g j cur t (0, 0) h]
  exact hc j u hj
theorem Row.frozen (h : Row w g t xs) (j : Nat) : w.frozen? ⟨g, j, none⟩ = false := by
  obtain ⟨cur, h, _⟩ := h
  exact frozen_of_row w g j cur t h
theorem Row.of_block (h : Row w g t xs) (hb : w'.heap[g]? = w.heap[g]?) : Row w' g t xs := by
  obtain ⟨cur, h, hc⟩ := h
  exact ⟨cur, hb.trans h, hc⟩
theorem Row.drewN (h : Row w g t xs) (n : Nat) : Row (w.drewN n) g t xs := h
theorem Row.alloc (h : Row w g t xs) (o : Obj) : Row (w.alloc o) g t xs := h.of_block (Below.heap_alloc w o g h.lt)
theorem Row.far (h : Row w g t xs) {p : Addr} (hp : g ≠ p.block) (u : Value) : Row (w.setCell p u) g t xs := h.of_block (Below.heap_setCell w p u g hp)
theorem Row.later (h : Row w g t xs) (hb : Below w.heap.size w w') : Row w' g t xs := h.of_block (hb.block g h.lt)
theorem Row.grown {row : Option Nat} (h : Row w g t xs) (hb : w.grownBy w' row) (hg : some g ≠ row) : Row w' g t xs := h.of_block (hb.block g h.lt hg)
theorem Row.ne_blk {g' : Nat} {t' : TypeId} {cs : Array Value} (h : Row w g t xs) (h' : Blk w g' t' cs) (hne : t ≠ t') : g ≠ g' := by
  rintro rfl
  obtain ⟨cur, h, _⟩ := h
  unfold Blk at h'
  rw [h] at h'
  injection h' with h'
  injection h' with _ ht
  exact hne ht
theorem Row.of_own {base size n c : Nat} (h : w.ownsRow base t size (.slice (some ⟨g, 0, none⟩) n c) n xs) : Row w g t xs := by
  obtain ⟨hl, h⟩ := h
  rcases h with ⟨h, _⟩ | ⟨g', cap, cur, hv, _, hh, _, _, _, ht⟩
  · cases h
  · injection hv with h1 _ _
    injection h1 with h1
    injection h1 with h1
    subst h1
    refine ⟨cur, hh, fun j u hu => ?_⟩
    rw [← ht, List.getElem?_take] at hu
    split at hu
    · simpa using hu
    · cases hu
end

/-! ### a set kept as map[int kind]bool -/
/-- Block b is a map of at most n entries from int to bool; looked up at x it answers S x. -/
def BSet (P : Program) (k e : TypeId) (w : World) (b n : Nat) (S : Int → Bool) : Prop :=
  ∃ D : DataW Unit, w.ownsMap P k (plainElem P e) b n D ∧ ∀ x, (Lit.int .i64 x).wf = true → D.atKey (.int .i64 x) (.lit (.bool false)) = .lit (.bool (S x))
section
variable {P : Program} {k e t : TypeId} {w w' : World} {b n : Nat} {S : Int → Bool}

theorem plainElem_bool_inv (he : P.underlying e = some .bool) {v : Value} {z : DataW Unit × List MemPlace} (h : plainElem P e v = some z) : ∃ x, v = .bool x ∧ z = (.lit (.bool x), []) := by
  unfold plainElem at h
  rw [he] at h
  cases v <;> simp at h
  exact ⟨_, rfl, h.symm⟩

theorem BSet.lt (h : BSet P k e w b n S) : b < w.heap.size := by obtain ⟨D, h, _⟩ := h; exact h.lt
theorem BSet.of_block (h : BSet P k e w b n S) (hb : w'.heap[b]? = w.heap[b]?) : BSet P k e w' b n S := by
  obtain ⟨D, ⟨es, clock, h, r⟩, hS⟩ := h
  exact ⟨D, ⟨es, clock, hb.trans h, r⟩, hS⟩
theorem BSet.drewN (h : BSet P k e w b n S) (m : Nat) : BSet P k e (w.drewN m) b n S := h
theorem BSet.alloc (h : BSet P k e w b n S) (o : Obj) : BSet P k e (w.alloc o) b n S := h.of_block (Below.heap_alloc w o b h.lt)
theorem BSet.later (h : BSet P k e w b n S) (hb : Below w.heap.size w w') : BSet P k e w' b n S := h.of_block (hb.block b h.lt)
theorem BSet.grown {row : Option Nat} (h : BSet P k e w b n S) (hb : w.grownBy w' row) (hg : some b ≠ row) : BSet P k e w' b n S := h.of_block (hb.block b h.lt hg)
theorem BSet.far (h : BSet P k e w b n S) {p : Addr} (hp : b ≠ p.block) (u : Value) : BSet P k e (w.setCell p u) b n S := h.of_block (Below.heap_setCell w p u b hp)
theorem BSet.ne_blk {g : Nat} {t' : TypeId} {cs : Array Value} (h : BSet P k e w b n S) (h' : Blk w g t' cs) : b ≠ g := by
  rintro rfl
  obtain ⟨D, ⟨es, clock, h, _⟩, _⟩ := h
  unfold Blk at h'
  rw [h] at h'
  cases h'
theorem BSet.ne_row {g : Nat} {t' : TypeId} {xs : List Value} (h : BSet P k e w b n S) (h' : Row w g t' xs) : b ≠ g := by
  rintro rfl
  obtain ⟨D, ⟨es, clock, h, _⟩, _⟩ := h
  obtain ⟨cur, h', _⟩ := h'
  rw [h] at h'
  cases h'
theorem BSet.congr {S' : Int → Bool} (h : BSet P k e w b n S) (hs : ∀ x, S x = S' x) : BSet P k e w b n S' := by
  obtain ⟨D, h, hS⟩ := h
  exact ⟨D, h, fun x hx => by rw [hS x hx, hs x]⟩
theorem BSet.mono {n' : Nat} (h : BSet P k e w b n S) (hn : n ≤ n') : BSet P k e w b n' S := by
  obtain ⟨D, h, hS⟩ := h
  exact ⟨D, h.mono hn, hS⟩
theorem BSet.made (w : World) : BSet P k e (w.alloc (.map #[] 0)) w.heap.size 0 (fun _ => false) :=
  ⟨.map [], World.ownsMap_made w P k _, fun _ _ => rfl⟩

theorem BSet.run (h : BSet P k e w b n S) (hk : P.underlying k = some (.int .i64)) (he : P.underlying e = some .bool) (ht : P.underlying t = some (.map k e)) (hz : (zeroValue e).run P w = .ok (.bool false) w)
    {x : Int} (hx : (Lit.int .i64 x).wf = true) : (Instr.lookup t (.map (some b)) (.int .i64 x) false).run P w = .ok (.bool (S x)) w := by
  obtain ⟨D, h, hS⟩ := h
  obtain ⟨v, ps, hrun, hv⟩ := h.lookup (Maps.int_keyed hk) ht hz (plainElem_bool he false) (Maps.keyOf_int_mk hk hx)
  obtain ⟨y, rfl, hy⟩ := plainElem_bool_inv he hv
  rw [hrun]
  rw [hS x hx] at hy
  simp at hy
  rw [hy.1]

theorem BSet.store (h : BSet P k e w b n S) (hk : P.underlying k = some (.int .i64)) (he : P.underlying e = some .bool) (ht : P.underlying t = some (.map k e)) (hn : n < maxLen)
    {x : Int} (hx : (Lit.int .i64 x).wf = true) : ∃ w', (Instr.mapUpdate t (.map (some b)) (.int .i64 x) (.bool true)).run P w = .ok () w' ∧ BSet P k e w' b (n + 1) (fun y => y == x || S y) ∧ w.grownBy w' (some b) := by
  obtain ⟨D, h, hS⟩ := h
  obtain ⟨w', hrun, h1, h2⟩ := h.update (Maps.int_keyed hk) ht hn (Maps.keyOf_int_mk hk hx) (plainElem_bool he true)
  refine ⟨w', hrun, ⟨_, h1, fun y hy => ?_⟩, h2⟩
  by_cases hyx : y = x
  · subst hyx
    rw [Maps.atKey_put_same (k := .int .i64 y) h.isMap trivial]
    simp
  · rw [Maps.atKey_put_other (by simpa using hyx), hS y hy]
    simp [hyx]
end

theorem makeMap_hint {P : Program} (t k e : TypeId) (ht : P.underlying t = some (.map k e)) (n : Int) (w : World) :
    (Instr.makeMap t (some (.int .i64 n))).run P w = .ok (.map (some w.heap.size)) (w.alloc (.map #[] 0)) := by
  simp [Instr.makeMap, run_underlying ht]; rfl

/-- 'm[x]' at the operation, for the walk. -/
theorem wpList_lookup_bset {P : Program} (w : World) {ops : Array Oper} {rest : List Oper} {o : Oper} {a : Act} {Q : Exit → Act → World → Prop}
    (hg : o.guard = none) (m x : Operand) (t : TypeId) (hop : o.op = Op.lookup t m x false) (k e : TypeId) (hk : P.underlying k = some (.int .i64)) (he : P.underlying e = some .bool) (ht : P.underlying t = some (.map k e))
    (hz : (zeroValue e).run P w = .ok (.bool false) w) (b n : Nat) (S : Int → Bool) (hm : a.eval m = .map (some b)) (hown : BSet P k e w b n S) (y : Int) (hx : a.eval x = .int .i64 y) (hy : (Lit.int .i64 y).wf = true)
    (hK : wpList P ops Q rest (a.put o.dst (.bool (S y))) w) : wpList P ops Q (o :: rest) a w := by
  refine wpList_plain hg fun K' hK' => ?_
  unfold Oper.wp
  simp [execOp, hop, hm, hx, hown.run hk he ht hz hy, Result.andThen]
  exact hK' _ _ hK

/-- 'm[x] = true' at the operation, for the walk. -/
theorem wpList_store_bset {P : Program} (w : World) {ops : Array Oper} {rest : List Oper} {o : Oper} {a : Act} {Q : Exit → Act → World → Prop}
    (hg : o.guard = none) (m x v : Operand) (t : TypeId) (hop : o.op = Op.mapUpdate t m x v) (k e : TypeId) (hk : P.underlying k = some (.int .i64)) (he : P.underlying e = some .bool) (ht : P.underlying t = some (.map k e))
    (b n : Nat) (S : Int → Bool) (hm : a.eval m = .map (some b)) (hown : BSet P k e w b n S) (hn : n < maxLen) (y : Int) (hx : a.eval x = .int .i64 y) (hv : a.eval v = .bool true) (hy : (Lit.int .i64 y).wf = true)
    (hK : ∀ w', BSet P k e w' b (n + 1) (fun z => z == y || S z) → w.grownBy w' (some b) → wpList P ops Q rest (a.put o.dst undef) w') : wpList P ops Q (o :: rest) a w := by
  refine wpList_plain hg fun K' hK' => ?_
  obtain ⟨w', hrun, r1, r2⟩ := hown.store hk he ht hn hy
  unfold Oper.wp
  simp [execOp, hop, hm, hx, hv, hrun, Result.andThen]
  exact hK' _ _ (hK w' r1 r2)

/-! ### slices that came in -/
/-- The slice '.slice A n c' that came in reads as the integers zs. -/
def Ints (k : IntKind) (w : World) (A : Option Addr) (n : Nat) (zs : List Int) : Prop :=
  zs.length = n ∧ n ≤ maxLen ∧ (∀ z ∈ zs, (Lit.int k z).wf = true) ∧
  ((n = 0 ∧ zs = []) ∨ ∃ b off, A = some ⟨b, off, none⟩ ∧ b < w.heap.size ∧ ∀ i, i < n → w.cell? ⟨b, off + i, none⟩ = some (.int k (zs.getD i 0)))
def Strs (w : World) (A : Option Addr) (n : Nat) (zs : List ByteArray) : Prop :=
  zs.length = n ∧ n ≤ maxLen ∧ (∀ z ∈ zs, z.size ≤ maxLen) ∧
  ((n = 0 ∧ zs = []) ∨ ∃ b off, A = some ⟨b, off, none⟩ ∧ b < w.heap.size ∧ ∀ i, i < n → w.cell? ⟨b, off + i, none⟩ = some (.string (zs.getD i ByteArray.empty)))

theorem Ints.later {k : IntKind} {w w' : World} {A : Option Addr} {n : Nat} {zs : List Int} (h : Ints k w A n zs) (hb : Below w.heap.size w w') : Ints k w' A n zs := by
  obtain ⟨h1, h2, h3, h4⟩ := h
  refine ⟨h1, h2, h3, ?_⟩
  rcases h4 with h4 | ⟨b, off, e, hlt, hc⟩
  · exact .inl h4
  · exact .inr ⟨b, off, e, Nat.lt_of_lt_of_le hlt hb.size, fun i hi => (hb.cell (p := ⟨b, off + i, none⟩) hlt).trans (hc i hi)⟩
theorem Strs.later {w w' : World} {A : Option Addr} {n : Nat} {zs : List ByteArray} (h : Strs w A n zs) (hb : Below w.heap.size w w') : Strs w' A n zs := by
  obtain ⟨h1, h2, h3, h4⟩ := h
  refine ⟨h1, h2, h3, ?_⟩
  rcases h4 with h4 | ⟨b, off, e, hlt, hc⟩
  · exact .inl h4
  · exact .inr ⟨b, off, e, Nat.lt_of_lt_of_le hlt hb.size, fun i hi => (hb.cell (p := ⟨b, off + i, none⟩) hlt).trans (hc i hi)⟩

theorem Ints.split {k : IntKind} {w : World} {A : Option Addr} {n : Nat} {zs : List Int} (h : Ints k w A n zs) :
    n ≤ 0 ∨ ∃ b off, A = some ⟨b, off, none⟩ ∧ Hid (∀ i, i < n → w.cell? ⟨b, off + i, none⟩ = some (.int k (zs.getD i 0))) := by
  obtain ⟨h1, h2, h3, h4⟩ := h
  rcases h4 with h4 | ⟨b, off, e, _, hc⟩
  · exact .inl (by omega)
  · exact .inr ⟨b, off, e, hc⟩
theorem Strs.split {w : World} {A : Option Addr} {n : Nat} {zs : List ByteArray} (h : Strs w A n zs) :
    n ≤ 0 ∨ ∃ b off, A = some ⟨b, off, none⟩ ∧ Hid (∀ i, i < n → w.cell? ⟨b, off + i, none⟩ = some (.string (zs.getD i ByteArray.empty))) := by
  obtain ⟨h1, h2, h3, h4⟩ := h
  rcases h4 with h4 | ⟨b, off, e, _, hc⟩
  · exact .inl (by omega)
  · exact .inr ⟨b, off, e, hc⟩
theorem Strs.size {w : World} {A : Option Addr} {n : Nat} {zs : List ByteArray} (h : Strs w A n zs) (i : Nat) : (zs.getD i ByteArray.empty).size ≤ 9223372036854775807 := by
  rcases Nat.lt_or_ge i zs.length with g | g
  · rw [List.getD_eq_getElem?_getD, List.getElem?_eq_getElem g]
    exact h.2.2.1 _ (by simp)
  · rw [List.getD_eq_getElem?_getD, List.getElem?_eq_none g]
    exact Nat.zero_le _
theorem Ints.wf {k : IntKind} {w : World} {A : Option Addr} {n : Nat} {zs : List Int} (h : Ints k w A n zs) {i : Nat} (hi : i < n) : (Lit.int k (zs.getD i 0)).wf = true := by
  have hl := h.1
  rw [List.getD_eq_getElem?_getD, List.getElem?_eq_getElem (by omega)]
  exact h.2.2.1 _ (by simp)

section
variable {H : Type} {enc : TypeId × Value → H} {P : Program} {w : World}
theorem isInts_of {t e : TypeId} {k : IntKind} {A : Option Addr} {n c : Nat} {d : DataW H} {p : List MemPlace} (ht : P.underlying t = some (.slice e)) (he : P.underlying e = some (.int k)) (hc : P.cellsOf e = 1)
    (h : DataW.Trod enc P w 0 (fun _ => true) true t (.slice A n c) d p) : ∃ zs, Ints k w A n zs := by
  obtain ⟨fuel, hf⟩ := h
  rcases ChangeShapes.open_ints ht he hc hf with ⟨hcs, _⟩ | ⟨x, l, c', zs, hcs, _, hl, hm, hz, _, hcell, hwz⟩
  · simp [Value.cells] at hcs
    obtain ⟨rfl, rfl, rfl⟩ := hcs
    exact ⟨[], rfl, Nat.zero_le _, by simp, .inl ⟨rfl, rfl⟩⟩
  · simp [Value.cells] at hcs
    obtain ⟨rfl, rfl, rfl⟩ := hcs
    have hz : zs.length = c := by simpa using hz
    refine ⟨zs.take n, by simp; omega, by omega, fun z hz' => hwz z (List.mem_of_mem_take hz'), ?_⟩
    rcases Nat.eq_zero_or_pos n with h0 | h0
    · subst h0; exact .inl ⟨rfl, by simp⟩
    · obtain ⟨b, off, spot⟩ := x
      have hc0 := hcell 0 (by omega)
      have hspot : spot = none := by simpa [Addr.add] using World.cell?_spot hc0
      subst hspot
      refine .inr ⟨b, off, rfl, World.block_lt_of_cell? _ _ hc0, fun i hi => ?_⟩
      have := hcell i (by omega)
      have e1 : (⟨b, off, none⟩ : Addr).add i = ⟨b, off + i, none⟩ := by
        unfold Addr.add; by_cases h : i = 0 <;> simp [h]
      rw [e1] at this
      rw [this]
      simp [hi]
theorem isStrs_of {t e : TypeId} {A : Option Addr} {n c : Nat} {d : DataW H} {p : List MemPlace} (ht : P.underlying t = some (.slice e)) (he : P.underlying e = some .string) (hc : P.cellsOf e = 1)
    (h : DataW.Trod enc P w 0 (fun _ => true) true t (.slice A n c) d p) : ∃ zs, Strs w A n zs := by
  obtain ⟨fuel, hf⟩ := h
  rcases ChangeShapes.open_strings ht he hc hf with ⟨hcs, _⟩ | ⟨x, l, c', zs, hcs, _, hl, hm, hz, _, hcell, hwz⟩
  · simp [Value.cells] at hcs
    obtain ⟨rfl, rfl, rfl⟩ := hcs
    exact ⟨[], rfl, Nat.zero_le _, by simp, .inl ⟨rfl, rfl⟩⟩
  · simp [Value.cells] at hcs
    obtain ⟨rfl, rfl, rfl⟩ := hcs
    have hz : zs.length = c := by simpa using hz
    refine ⟨zs.take n, by simp; omega, by omega, fun z hz' => hwz z (List.mem_of_mem_take hz'), ?_⟩
    rcases Nat.eq_zero_or_pos n with h0 | h0
    · subst h0; exact .inl ⟨rfl, by simp⟩
    · obtain ⟨b, off, spot⟩ := x
      have hc0 := hcell 0 (by omega)
      have hspot : spot = none := by simpa [Addr.add] using World.cell?_spot hc0
      subst hspot
      refine .inr ⟨b, off, rfl, World.block_lt_of_cell? _ _ hc0, fun i hi => ?_⟩
      have := hcell i (by omega)
      have e1 : (⟨b, off, none⟩ : Addr).add i = ⟨b, off + i, none⟩ := by
        unfold Addr.add; by_cases h : i = 0 <;> simp [h]
      rw [e1] at this
      rw [this]
      simp [hi]
end
end Go.Proofs.YtlahcemjknffnaaFmt
