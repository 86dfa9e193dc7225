/-
  The stack of a StatefulLexer: what it reads as, and what a new one holds. Conditions: none beyond those stated.
-/
import Derived.Test.YtjgmknlkgpfpkaaRows
import Derived.Test.YtjgmknlkgpfpkaaKit
import Derived.WalkKit
import Derived.WalkSpells
import Derived.WalkLawsBesides
import Derived.Outline
import Derived.Deep.RegionHeld3
import Derived.Deep.QuietTactic
import Derived.BigQuiet
import Derived.Deep.LoopGhost
import Derived.Deep.RegionLaw
import Derived.Deep.AppendLies
import Derived.BigRegion
namespace Go.Proofs.Ytjgmknlkgpfpkaa
open Go.RowKit
set_option linter.unusedSimpArgs false
set_option linter.unusedVariables false
/-! ### rows -/
theorem Row.ne_row {w : World} {g g' : Nat} {t t' : TypeId} {xs xs' : List Value} (h : Row w g t xs) (h' : Row w g' t' xs') (hne : t ≠ t') : g ≠ g' := by
  rintro rfl
  obtain ⟨cur, h, _⟩ := h
  obtain ⟨cur', h', _⟩ := h'
  rw [h] at h'
  injection h' with h'
  injection h' with _ ht
  exact hne ht
theorem Row.drew {w : World} {g : Nat} {t : TypeId} {xs : List Value} (h : Row w g t xs) : Row w.drew g t xs := h
theorem Row.of_blk {w : World} {b : Nat} {t : TypeId} {cs : Array Value} {xs : List Value} (h : Blk w b t cs) (hx : cs.toList = xs) : Row w b t xs :=
  ⟨cs, h, fun j u hu => by rw [← hx] at hu; simpa using hu⟩
theorem own_row {w : World} {base size n : Nat} {t : TypeId} {v : Value} {xs : List Value} (h : w.ownsRow base t size v n xs) : (v.ownBlock = none ∧ v = .slice none 0 0 ∧ n = 0) ∨ ∃ g c, v = .slice (some ⟨g, 0, none⟩) n c ∧ v.ownBlock = some g ∧ base ≤ g ∧ n ≤ c ∧ Row w g t xs := by
  obtain ⟨hl, h'⟩ := h
  rcases h' with ⟨hv, hn⟩ | ⟨g, cap, cur, hv, hbg, hh, h1, h2, h3, h4⟩
  · subst hv; exact .inl ⟨rfl, rfl, hn⟩
  · subst hv; exact .inr ⟨g, cap, rfl, rfl, hbg, h1, Row.of_own ⟨hl, .inr ⟨g, cap, cur, rfl, hbg, hh, h1, h2, h3, h4⟩⟩⟩
theorem own_ne_blk {w : World} {base size n b : Nat} {t t' : TypeId} {v : Value} {xs : List Value} {cs : Array Value} (h : w.ownsRow base t size v n xs) (hb : Blk w b t' cs) (hne : t ≠ t') : some b ≠ v.ownBlock := by
  rcases own_row h with ⟨h, -, -⟩ | ⟨g, c, _, h, _, _, hr⟩
  · rw [h]; simp
  · rw [h]; intro e; injection e with e; exact hr.ne_blk hb hne e.symm
theorem own_ne_row {w : World} {base size n b : Nat} {t t' : TypeId} {v : Value} {xs ys : List Value} (h : w.ownsRow base t size v n xs) (hb : Row w b t' ys) (hne : t ≠ t') : some b ≠ v.ownBlock := by
  rcases own_row h with ⟨h, -, -⟩ | ⟨g, c, _, h, _, _, hr⟩
  · rw [h]; simp
  · rw [h]; intro e; injection e with e; exact hr.ne_row hb hne e.symm
theorem own_far {w : World} {base size n : Nat} {t t' : TypeId} {v : Value} {xs : List Value} {b : Nat} {cs : Array Value} (h : w.ownsRow base t size v n xs) (hb : Blk w b t' cs) (hne : t ≠ t') (i : Nat) (u : Value) : (w.setCell ⟨b, i, none⟩ u).ownsRow base t size v n xs := by
  obtain ⟨hl, h'⟩ := h
  refine ⟨hl, ?_⟩
  rcases h' with h' | ⟨g, cap, cur, hv, hbg, hh, h1, h2, h3, h4⟩
  · exact .inl h'
  · refine .inr ⟨g, cap, cur, hv, hbg, (Below.heap_setCell w ⟨b, i, none⟩ u g ?_).trans hh, h1, h2, h3, h4⟩
    rintro rfl
    unfold Blk at hb
    rw [hh] at hb
    injection hb with hb
    injection hb with _ ht
    exact hne ht
theorem own_keep {w w' : World} {base size n : Nat} {t : TypeId} {v : Value} {xs : List Value} (h : w.ownsRow base t size v n xs) (hb : ∀ g, v.ownBlock = some g → w'.heap[g]? = w.heap[g]?) : w'.ownsRow base t size v n xs := by
  obtain ⟨hl, h'⟩ := h
  refine ⟨hl, ?_⟩
  rcases h' with h' | ⟨g, cap, cur, hv, hbg, hh, h1, h2, h3, h4⟩
  · exact .inl h'
  · exact .inr ⟨g, cap, cur, hv, hbg, (hb g (by rw [hv]; rfl)).trans hh, h1, h2, h3, h4⟩
theorem cell_alloc {w : World} {g i : Nat} {v : Value} (h : w.cell? ⟨g, i, none⟩ = some v) (o : Obj) : (w.alloc o).cell? ⟨g, i, none⟩ = some v := by
  rw [← h]; exact World.cell?_of_block (Below.heap_alloc w o g (World.block_lt_of_cell? _ _ h))
theorem own_base {w : World} {base size n : Nat} {t : TypeId} {v : Value} {xs : List Value} (h : w.ownsRow base t size v n xs) : ∀ k, v.ownBlock = some k → base ≤ k := by
  intro k hk
  rcases own_row h with ⟨h, -, -⟩ | ⟨g, c, _, h, hg, _, hr⟩
  · rw [h] at hk; cases hk
  · rw [h] at hk; injection hk with hk; omega
/-! ### the stack -/
structure Ent where
  nm : ByteArray
  A : Option Addr
  n : Nat
  c : Nat
  gs : List ByteArray
def Ent.cells (e : Ent) : List Value := [.string e.nm, .slice e.A e.n e.c]
def Ent.key (e : Ent) : ByteArray × List ByteArray := (e.nm, e.gs)
def entCells : List Ent → List Value
  | [] => []
  | x :: r => x.cells ++ entCells r
theorem entCells_length (l : List Ent) : (entCells l).length = l.length * 2 := by
  induction l with
  | nil => rfl
  | cons x r ih => simp only [entCells, List.length_append, ih, List.length_cons]; simp [Ent.cells]; omega
theorem entCells_append (a b : List Ent) : entCells (a ++ b) = entCells a ++ entCells b := by
  induction a with
  | nil => rfl
  | cons x r ih => simp [entCells, ih]
theorem entCells_at {l : List Ent} {i : Nat} {e : Ent} (he : l[i]? = some e) (j : Nat) (hj : j < 2) : (entCells l)[i * 2 + j]? = e.cells[j]? := by
  induction l generalizing i with
  | nil => simp at he
  | cons x r ih =>
    cases i with
    | zero =>
      simp at he
      subst he
      simp only [entCells, Nat.zero_mul, Nat.zero_add]
      rw [List.getElem?_append_left (by simp [Ent.cells]; omega)]
    | succ i =>
      simp only [entCells]
      rw [List.getElem?_append_right (by simp [Ent.cells]; omega)]
      have e' : (i + 1) * 2 + j - x.cells.length = i * 2 + j := by simp [Ent.cells]; omega
      rw [e', ih (by simpa using he)]
/-- A slice of strings in a block of its own, or nil. -/
def GS (w : World) (A : Option Addr) (n : Nat) (gs : List ByteArray) : Prop := n = gs.length ∧ ((A = none ∧ gs = []) ∨ ∃ r, A = some ⟨r, 0, none⟩ ∧ Row w r 9 (gs.map Value.string))
theorem GS.keep {w w' : World} {A : Option Addr} {n : Nat} {gs : List ByteArray} (h : GS w A n gs) (hs : ∀ r xs, Row w r 9 xs → Row w' r 9 xs) : GS w' A n gs := by
  obtain ⟨h1, h2⟩ := h
  refine ⟨h1, ?_⟩
  rcases h2 with h2 | ⟨r, h3, h4⟩
  · exact .inl h2
  · exact .inr ⟨r, h3, hs _ _ h4⟩
theorem GS.later {w w' : World} {A : Option Addr} {n : Nat} {gs : List ByteArray} (h : GS w A n gs) (hb : Below w.heap.size w w') : GS w' A n gs := h.keep fun _ _ h => h.later hb
/-- The lexer's block, its first cell the slice v. -/
def Lx (w : World) (b : Nat) (v : Value) : Prop := ∃ cs : Array Value, Blk w b 44 cs ∧ cs[0]? = some v
theorem Lx.lt {w : World} {b : Nat} {v : Value} (h : Lx w b v) : b < w.heap.size := by obtain ⟨_, h, _⟩ := h; exact h.lt
theorem Lx.later {w w' : World} {b : Nat} {v : Value} (h : Lx w b v) (hb : Below w.heap.size w w') : Lx w' b v := by obtain ⟨cs, h, h0⟩ := h; exact ⟨cs, h.later hb, h0⟩
theorem Lx.alloc {w : World} {b : Nat} {v : Value} (h : Lx w b v) (o : Obj) : Lx (w.alloc o) b v := by obtain ⟨cs, h, h0⟩ := h; exact ⟨cs, h.alloc o, h0⟩
theorem Lx.cell {w : World} {b : Nat} {v : Value} (h : Lx w b v) : w.cell? ⟨b, 0, none⟩ = some v := by obtain ⟨cs, h, h0⟩ := h; rw [h.cell]; exact h0
theorem Lx.frozen {w : World} {b : Nat} {v : Value} (h : Lx w b v) : w.frozen? ⟨b, 0, none⟩ = false := by obtain ⟨cs, h, h0⟩ := h; exact h.frozen 0
theorem Lx.set {w : World} {b : Nat} {v : Value} (h : Lx w b v) (u : Value) : Lx (w.setCell ⟨b, 0, none⟩ u) b u := by
  obtain ⟨cs, h, h0⟩ := h
  refine ⟨_, h.set 0 u, ?_⟩
  have := lt_of_some h0
  simp [this]
theorem Lx.block {w w' : World} {b : Nat} {v : Value} (h : Lx w b v) (hb : w'.heap[b]? = w.heap[b]?) : Lx w' b v := by
  obtain ⟨cs, h, h0⟩ := h
  exact ⟨cs, hb.trans h, h0⟩
/-- The stack es that the lexer at block b owns; v is its slice. All of it lies in blocks from lo on. -/
def StkO (lo : Nat) (w : World) (b : Nat) (v : Value) (es : List Ent) : Prop :=
  lo ≤ b ∧ Lx w b v ∧ w.ownsRow lo 49 2 v es.length (entCells es) ∧ ∀ e ∈ es, GS w e.A e.n e.gs
/-- The stack es that the lexer at block b shows. -/
def StkR (lo : Nat) (w : World) (b : Nat) (es : List Ent) : Prop :=
  lo ≤ b ∧ ∃ A c, Lx w b (.slice A es.length c) ∧ (es = [] ∨ ∃ g, A = some ⟨g, 0, none⟩ ∧ lo ≤ g ∧ Row w g 49 (entCells es)) ∧ ∀ e ∈ es, GS w e.A e.n e.gs
theorem StkO.read {lo : Nat} {w : World} {b : Nat} {v : Value} {es : List Ent} (h : StkO lo w b v es) : StkR lo w b es := by
  obtain ⟨h1, h2, h3, h4⟩ := h
  rcases own_row h3 with ⟨-, rfl, h5⟩ | ⟨g, c, rfl, -, h6, -, h7⟩
  · exact ⟨h1, none, 0, by rw [h5]; exact h2, .inl (List.eq_nil_of_length_eq_zero h5), h4⟩
  · exact ⟨h1, _, c, h2, .inr ⟨g, rfl, h6, h7⟩, h4⟩
/-- Kept where blocks from lo on and rows of strings are kept. -/
theorem StkR.keep {lo : Nat} {w w' : World} {b : Nat} {es : List Ent} (h : StkR lo w b es) (hb : ∀ i, lo ≤ i → i < w.heap.size → w'.heap[i]? = w.heap[i]?) (hs : ∀ r xs, Row w r 9 xs → Row w' r 9 xs) : StkR lo w' b es := by
  obtain ⟨h1, A, c, h2, h3, h4⟩ := h
  refine ⟨h1, A, c, h2.block (hb _ h1 h2.lt), ?_, fun e he => (h4 e he).keep hs⟩
  rcases h3 with h3 | ⟨g, h5, h6, h7⟩
  · exact .inl h3
  · exact .inr ⟨g, h5, h6, h7.of_block (hb _ h6 h7.lt)⟩
theorem StkR.later {lo : Nat} {w w' : World} {b : Nat} {es : List Ent} (h : StkR lo w b es) (hb : Below w.heap.size w w') : StkR lo w' b es := h.keep (fun i _ hi => hb.block i hi) (fun _ _ h => h.later hb)
theorem StkO.later {lo : Nat} {w w' : World} {b : Nat} {v : Value} {es : List Ent} (h : StkO lo w b v es) (hb : Below w.heap.size w w') : StkO lo w' b v es := by
  obtain ⟨h1, h2, h3, h4⟩ := h
  refine ⟨h1, h2.later hb, own_keep h3 fun g hg => hb.block g ?_, fun e he => (h4 e he).later hb⟩
  rcases own_row h3 with ⟨h, -, -⟩ | ⟨g', c, _, h, -, -, hr⟩
  · rw [h] at hg; cases hg
  · rw [h] at hg; injection hg with hg; subst hg; exact hr.lt
theorem StkR.ent {lo : Nat} {w : World} {b : Nat} {es : List Ent} (h : StkR lo w b es) {i : Nat} {e : Ent} (he : es[i]? = some e) :
    ∃ g c, w.cell? ⟨b, 0, none⟩ = some (.slice (some ⟨g, 0, none⟩) es.length c) ∧ w.cell? ⟨g, i * 2, none⟩ = some (.string e.nm) ∧ w.cell? ⟨g, i * 2 + 1, none⟩ = some (.slice e.A e.n e.c) ∧ GS w e.A e.n e.gs := by
  obtain ⟨h1, A, c, h2, h3, h4⟩ := h
  rcases h3 with h3 | ⟨g, rfl, -, hr⟩
  · subst h3; simp at he
  · refine ⟨g, c, h2.cell, ?_, ?_, h4 e (List.mem_of_getElem? he)⟩
    · exact hr.cell (j := i * 2 + 0) (entCells_at he 0 (by omega))
    · exact hr.cell (j := i * 2 + 1) (entCells_at he 1 (by omega))
def rootEnt : Ent := ⟨⟨#[82, 111, 111, 116]⟩, none, 0, 0, []⟩
theorem Blk.new_at {w : World} {b : Nat} {t : TypeId} {cs : Array Value} (hb : b = w.heap.size) : Blk (w.alloc (.cells cs t)) b t cs := by subst hb; exact Blk.new w t cs
set_option maxHeartbeats 1000000 in
set_option maxRecDepth 100000 in
theorem lexString_any (w : World) : Calls Try.prog 27 #[.pointer none, .string ⟨#[]⟩, .string ⟨#[]⟩] w fun e w' => ∃ b v, e = .returned (.tuple #[.iface 26 (.pointer (some ⟨b, 0, none⟩)), .nilIface]) ∧ StkO w.heap.size w' b v [rootEnt] ∧ Below w.heap.size w w' := by
  go_enter Try.func27, Try.ntmps27
  go_wp2_with fail
  first | go_ret2 | go_ret
  refine ⟨w.heap.size + 1, .slice (some ⟨w.heap.size, 0, none⟩) 1 1, rfl, ⟨by omega, ⟨_, Blk.new_at (by simp), rfl⟩, ⟨rfl, .inr ⟨w.heap.size, 1, #[.string ⟨#[82, 111, 111, 116]⟩, .slice none 0 0], rfl, Nat.le_refl _, ?_, Nat.le_refl _, by decide, rfl, rfl⟩⟩, ?_⟩, ((Below.refl _ _).alloc (Nat.le_refl _) _).alloc (by simp) _⟩
  · exact (Blk.new w _ _).alloc _
  · intro e he
    simp at he
    subst he
    exact ⟨rfl, .inl ⟨rfl, rfl⟩⟩
set_option maxHeartbeats 1000000 in
set_option maxRecDepth 100000 in
theorem root_any (w : World) : Calls Try.prog 21 #[] w fun e w' => ∃ b v, e = .returned (.pointer (some ⟨b, 0, none⟩)) ∧ StkO w.heap.size w' b v [rootEnt] ∧ Below w.heap.size w w' := by
  have ha : ∀ (v : Value) (W : World), (Instr.typeAssert (.iface 26 v) 57 26 false).run Try.prog W = .ok v W := by intro v W; kernel_rfl
  go_enter Try.func21, Try.ntmps21
  go_wp2_with fail
  refine (lexString_any w).mono ?_
  rintro e w1 ⟨b, v, rfl, hst, hb⟩
  go_wp2_with fail
  go_ret
  exact ⟨b, v, rfl, hst, hb⟩
end Go.Proofs.Ytjgmknlkgpfpkaa
