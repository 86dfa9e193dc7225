/-
  FnTop's code behind the first comparisons: the checkpoint slots and the great loop. Conditions: the lexer and the naive machine stand at the same cursors.
-/
import Derived.Test.YtomfonilbenhbaaY8
namespace Go.Proofs.Ytomfonilbenhbaa
open Go.RowKit
set_option linter.unusedSimpArgs false
set_option linter.unusedVariables false
namespace Tp
open Up
def right : Nat → Code → Code
  | 0, c => c
  | k + 1, .seq _ b => right k b
  | _, c => c
noncomputable def top : Code := (Try.f5.body).getD .skip
noncomputable def rest42 : Code := right 24 top
/-- Four slots of three numbers each, in the block b of type T. -/
def Slots (w : World) (b : Nat) (T : TypeId) (σ : Nat → PL.St) : Prop :=
  ∃ cs, Blk w b T cs ∧ cs.size = 12 ∧ ∀ i, i < 4 → cs[i * 3]? = some (.int .i64 ((σ i).raw : Nat)) ∧ cs[i * 3 + 1]? = some (.int .i64 ((σ i).next : Nat)) ∧ cs[i * 3 + 1 + 1]? = some (.int .i64 ((σ i).cur : Nat))
section
variable {w w' : World} {b : Nat} {T : TypeId} {σ : Nat → PL.St}
theorem Slots.later (h : Slots w b T σ) (hb : Below w.heap.size w w') : Slots w' b T σ := by
  obtain ⟨cs, h1, h2⟩ := h
  exact ⟨cs, h1.later hb, h2⟩
theorem Slots.drewN (h : Slots w b T σ) (n : Nat) : Slots (w.drewN n) b T σ := h
theorem Slots.alloc (h : Slots w b T σ) (o : Obj) : Slots (w.alloc o) b T σ := by
  obtain ⟨cs, h1, h2⟩ := h
  exact ⟨cs, h1.alloc o, h2⟩
theorem Slots.lt (h : Slots w b T σ) : b < w.heap.size := by
  obtain ⟨cs, h1, h2⟩ := h
  exact h1.lt
theorem Slots.grown {row : Option Nat} (h : Slots w b T σ) (hb : w.grownBy w' row) (hg : some b ≠ row) : Slots w' b T σ := by
  obtain ⟨cs, h1, h2⟩ := h
  exact ⟨cs, h1.grown hb hg, h2⟩
theorem Slots.ne {g : Nat} {T' : TypeId} {cs : Array Value} (h : Slots w b T σ) (h' : Blk w g T' cs) (hne : T ≠ T') : b ≠ g := by
  obtain ⟨_, h1, _⟩ := h
  exact h1.ne h' hne
theorem Slots.ne_row {g : Nat} {T' : TypeId} {xs : List Value} (h : Slots w b T σ) (h' : Row w g T' xs) (hne : T ≠ T') : b ≠ g := by
  obtain ⟨_, h1, _⟩ := h
  exact (h'.ne_blk h1 (Ne.symm hne)).symm
theorem Slots.ne_set {g n : Nat} {P : Program} {k e : TypeId} {S : Int → Bool} (h : Slots w b T σ) (h' : BSet P k e w g n S) : b ≠ g := by
  obtain ⟨_, h1, _⟩ := h
  exact (h'.ne_blk h1).symm
theorem Slots.frozen (h : Slots w b T σ) (i : Nat) : w.frozen? ⟨b, i, none⟩ = false := by
  obtain ⟨cs, h1, -⟩ := h
  exact h1.frozen i
theorem Slots.cell (h : Slots w b T σ) {i : Nat} (hi : i < 4) : w.cell? ⟨b, i * 3, none⟩ = some (.int .i64 ((σ i).raw : Nat)) ∧ w.cell? ⟨b, i * 3 + 1, none⟩ = some (.int .i64 ((σ i).next : Nat)) ∧ w.cell? ⟨b, i * 3 + 1 + 1, none⟩ = some (.int .i64 ((σ i).cur : Nat)) := by
  obtain ⟨cs, h1, -, h2⟩ := h
  obtain ⟨a, b, c⟩ := h2 i hi
  exact ⟨(h1.cell _).trans a, (h1.cell _).trans b, (h1.cell _).trans c⟩
/-- Slot j takes the state s. -/
def upd (σ : Nat → PL.St) (j : Nat) (s : PL.St) (i : Nat) : PL.St := if i = j then s else σ i
def put3 (w : World) (b x : Nat) (v0 v1 v2 : Value) : World := ((w.setCell ⟨b, x, none⟩ v0).setCell ⟨b, x + 1, none⟩ v1).setCell ⟨b, x + 2, none⟩ v2
theorem Slots.set (h : Slots w b T σ) {j : Nat} (hj : j < 4) (s : PL.St) : Slots (put3 w b (j * 3) (.int .i64 (s.raw : Nat)) (.int .i64 (s.next : Nat)) (.int .i64 (s.cur : Nat))) b T (upd σ j s) := by
  obtain ⟨cs, h1, h2, h3⟩ := h
  refine ⟨_, ((h1.set (j * 3) _).set (j * 3 + 1) _).set (j * 3 + 2) _, by simp [h2], fun i hi => ?_⟩
  obtain ⟨a, b, c⟩ := h3 i hi
  unfold upd
  simp only [Array.getElem?_setIfInBounds, Array.size_setIfInBounds, h2]
  by_cases e : i = j
  · subst e
    simp only [if_true]
    refine ⟨?_, ?_, ?_⟩
    · rw [if_neg (by omega), if_neg (by omega), if_pos (by omega)]
    · rw [if_neg (by omega), if_pos (by omega)]
    · rw [if_pos (by omega)]
  · rw [if_neg e]
    refine ⟨?_, ?_, ?_⟩
    · rw [if_neg (by omega), if_neg (by omega), if_neg (by omega)]; exact a
    · rw [if_neg (by omega), if_neg (by omega), if_neg (by omega)]; exact b
    · rw [if_neg (by omega), if_neg (by omega), if_neg (by omega)]; exact c
theorem Slots.far3 (h : Slots w b T σ) {g : Nat} (hg : b ≠ g) (x : Nat) (v0 v1 v2 : Value) : Slots (put3 w g x v0 v1 v2) b T σ := by
  obtain ⟨cs, h1, h2⟩ := h
  exact ⟨cs, ((h1.far (p := ⟨g, x, none⟩) hg _).far (p := ⟨g, x + 1, none⟩) hg _).far (p := ⟨g, x + 2, none⟩) hg _, h2⟩
theorem below_put3 {B : Nat} {a w : World} (h : Below B a w) {g : Nat} (hg : B ≤ g) (x : Nat) (v0 v1 v2 : Value) : Below B a (put3 w g x v0 v1 v2) := ((h.setCell (p := ⟨g, x, none⟩) hg v0).setCell (p := ⟨g, x + 1, none⟩) hg v1).setCell (p := ⟨g, x + 2, none⟩) hg v2
theorem grown_put3 {a w : World} {g : Nat} (h : a.grownBy w (some g)) (x : Nat) (v0 v1 v2 : Value) : a.grownBy (put3 w g x v0 v1 v2) (some g) := grown_setCell (p := ⟨g, x + 2, none⟩) (grown_setCell (p := ⟨g, x + 1, none⟩) (grown_setCell (p := ⟨g, x, none⟩) h (.inl rfl) v0) (.inl rfl) v1) (.inl rfl) v2
theorem Slots.new (w : World) (T : TypeId) : Slots (w.alloc (.cells #[.int .i64 0, .int .i64 0, .int .i64 0, .int .i64 0, .int .i64 0, .int .i64 0, .int .i64 0, .int .i64 0, .int .i64 0, .int .i64 0, .int .i64 0, .int .i64 0] T)) w.heap.size T (fun _ => ⟨0, 0, 0⟩) := by
  refine ⟨_, Blk.new w T _, rfl, fun i hi => ?_⟩
  match i, hi with
  | 0, _ | 1, _ | 2, _ | 3, _ => exact ⟨rfl, rfl, rfl⟩
theorem Slots.congr {σ' : Nat → PL.St} (h : Slots w b T σ) (hs : ∀ i, i < 4 → σ i = σ' i) : Slots w b T σ' := by
  obtain ⟨cs, h1, h2, h3⟩ := h
  exact ⟨cs, h1, h2, fun i hi => by rw [← hs i hi]; exact h3 i hi⟩
end
/-- The world in FnTop's great loop: the lexer at s, the naive machine at r, the slots at σ. -/
structure WS (w0 w : World) (pb tb mb c nm rb tt c2 sb : Nat) (L : List Tok) (S : Int → Bool) (E : Nat → Bool) (s r : PL.St) (σ ρ : Nat → PL.St) : Prop where
  m : Slots w sb 75 σ
  k : Slots w (sb + 1) 77 ρ
  x : Lx w pb tb mb c nm L S s.raw s.next s.cur
  f : Rf w rb tt c2 L E r.raw r.next r.cur
  b : Below w0.heap.size w0 w
section
variable {w0 w w' : World} {pb tb mb c nm rb tt c2 sb : Nat} {L : List Tok} {S : Int → Bool} {E : Nat → Bool} {s r : PL.St} {σ ρ : Nat → PL.St}
theorem WS.later (h : WS w0 w pb tb mb c nm rb tt c2 sb L S E s r σ ρ) (hb : Below w.heap.size w w') : WS w0 w' pb tb mb c nm rb tt c2 sb L S E s r σ ρ := ⟨h.m.later hb, h.k.later hb, h.x.later hb, h.f.later hb, below_next hb h.b⟩
theorem WS.drewN (h : WS w0 w pb tb mb c nm rb tt c2 sb L S E s r σ ρ) (q : Nat) : WS w0 (w.drewN q) pb tb mb c nm rb tt c2 sb L S E s r σ ρ := ⟨h.m.drewN q, h.k.drewN q, h.x.drewN q, h.f.drewN q, below_drewN h.b q⟩
theorem WS.drew (h : WS w0 w pb tb mb c nm rb tt c2 sb L S E s r σ ρ) : WS w0 w.drew pb tb mb c nm rb tt c2 sb L S E s r σ ρ := h.drewN 1
theorem WS.alloc (h : WS w0 w pb tb mb c nm rb tt c2 sb L S E s r σ ρ) (o : Obj) : WS w0 (w.alloc o) pb tb mb c nm rb tt c2 sb L S E s r σ ρ := ⟨h.m.alloc o, h.k.alloc o, h.x.alloc o, h.f.alloc o, h.b.alloc h.b.size o⟩
theorem WS.lexer (h : WS w0 w pb tb mb c nm rb tt c2 sb L S E s r σ ρ) (hg : w.grownBy w' (some pb)) (hp : w0.heap.size ≤ pb) {s' : PL.St} (hx : Lx w' pb tb mb c nm L S s'.raw s'.next s'.cur) : WS w0 w' pb tb mb c nm rb tt c2 sb L S E s' r σ ρ :=
  ⟨h.m.grown hg (by intro e; injection e with e; exact h.m.ne h.x.blk (by decide) e), h.k.grown hg (by intro e; injection e with e; exact h.k.ne h.x.blk (by decide) e), hx,
   h.f.grown hg (by intro e; injection e with e; exact h.f.blk.ne h.x.blk (by decide) e) (by intro e; injection e with e; exact h.f.row.ne_blk h.x.blk (by decide) e), h.b.grown hg h.b.size (fun q hq => by injection hq with hq; omega)⟩
theorem WS.ref (h : WS w0 w pb tb mb c nm rb tt c2 sb L S E s r σ ρ) (hg : w.grownBy w' (some rb)) (hp : w0.heap.size ≤ rb) {r' : PL.St} (hf : Rf w' rb tt c2 L E r'.raw r'.next r'.cur) : WS w0 w' pb tb mb c nm rb tt c2 sb L S E s r' σ ρ :=
  ⟨h.m.grown hg (by intro e; injection e with e; exact h.m.ne h.f.blk (by decide) e), h.k.grown hg (by intro e; injection e with e; exact h.k.ne h.f.blk (by decide) e),
   h.x.grown hg (by intro e; injection e with e; exact h.x.blk.ne h.f.blk (by decide) e) (by intro e; injection e with e; exact h.x.row.ne_blk h.f.blk (by decide) e) (by intro e; injection e with e; exact h.x.set.ne_blk h.f.blk e), hf, h.b.grown hg h.b.size (fun q hq => by injection hq with hq; omega)⟩
theorem WS.setM (h : WS w0 w pb tb mb c nm rb tt c2 sb L S E s r σ ρ) (hp : w0.heap.size ≤ sb) {j : Nat} (hj : j < 4) (t : PL.St) : WS w0 (put3 w sb (j * 3) (.int .i64 (t.raw : Nat)) (.int .i64 (t.next : Nat)) (.int .i64 (t.cur : Nat))) pb tb mb c nm rb tt c2 sb L S E s r (upd σ j t) ρ := by
  have hg := grown_put3 (World.grownBy.refl w (some sb)) (j * 3) (.int .i64 (t.raw : Nat)) (.int .i64 (t.next : Nat)) (.int .i64 (t.cur : Nat))
  exact ⟨h.m.set hj t, h.k.far3 (by omega) _ _ _ _, h.x.grown hg (by intro e; injection e with e; exact h.m.ne h.x.blk (by decide) e.symm) (by intro e; injection e with e; exact h.m.ne_row h.x.row (by decide) e.symm) (by intro e; injection e with e; exact h.m.ne_set h.x.set e.symm),
    h.f.grown hg (by intro e; injection e with e; exact h.m.ne h.f.blk (by decide) e.symm) (by intro e; injection e with e; exact h.m.ne_row h.f.row (by decide) e.symm), h.b.grown hg h.b.size (fun q hq => by injection hq with hq; omega)⟩
theorem WS.setK (h : WS w0 w pb tb mb c nm rb tt c2 sb L S E s r σ ρ) (hp : w0.heap.size ≤ sb) {j : Nat} (hj : j < 4) (t : PL.St) : WS w0 (put3 w (sb + 1) (j * 3) (.int .i64 (t.raw : Nat)) (.int .i64 (t.next : Nat)) (.int .i64 (t.cur : Nat))) pb tb mb c nm rb tt c2 sb L S E s r σ (upd ρ j t) := by
  have hg := grown_put3 (World.grownBy.refl w (some (sb + 1))) (j * 3) (.int .i64 (t.raw : Nat)) (.int .i64 (t.next : Nat)) (.int .i64 (t.cur : Nat))
  exact ⟨h.m.far3 (by omega) _ _ _ _, h.k.set hj t, h.x.grown hg (by intro e; injection e with e; exact h.k.ne h.x.blk (by decide) e.symm) (by intro e; injection e with e; exact h.k.ne_row h.x.row (by decide) e.symm) (by intro e; injection e with e; exact h.k.ne_set h.x.set e.symm),
    h.f.grown hg (by intro e; injection e with e; exact h.k.ne h.f.blk (by decide) e.symm) (by intro e; injection e with e; exact h.k.ne_row h.f.row (by decide) e.symm), h.b.grown hg h.b.size (fun q hq => by injection hq with hq; omega)⟩
theorem WS.congr {σ' ρ' : Nat → PL.St} (h : WS w0 w pb tb mb c nm rb tt c2 sb L S E s r σ ρ) (h1 : ∀ i, i < 4 → σ i = σ' i) (h2 : ∀ i, i < 4 → ρ i = ρ' i) : WS w0 w pb tb mb c nm rb tt c2 sb L S E s r σ' ρ' := ⟨h.m.congr h1, h.k.congr h2, h.x, h.f, h.b⟩
end
/-- What every state of the two machines meets. -/
structure Good (S : Int → Bool) (T : List Int) (EE : Nat) (s : PL.St) : Prop where
  raw : s.raw ≤ EE
  next : s.next = PL.stop S T s.raw
  le : s.next ≤ EE
  cur : PL.cnt S T s.raw = s.cur
theorem Good.fresh {S : Int → Bool} {T : List Int} {EE : Nat} (hF : PL.First T EE) : Good S T EE (PL.fresh S T) := ⟨Nat.zero_le _, rfl, hF.stop_le (Nat.zero_le _), rfl⟩
theorem Good.step {S : Int → Bool} {T : List Int} {EE : Nat} {s : PL.St} (hF : PL.First T EE) (h : Good S T EE s) : Good S T EE (s.step S T) := by
  unfold PL.St.step
  by_cases he : PL.at_ T s.next = -1
  · simp only [he, beq_self_eq_true, if_true]; exact h
  · have hlt : s.next < EE := by
      rcases Nat.lt_or_ge s.next EE with g | g
      · exact g
      · have := h.le
        have : s.next = EE := by omega
        rw [this] at he; exact absurd hF.eof he
    have hf : (PL.at_ T s.next == -1) = false := by simpa using he
    simp only [hf, Bool.false_eq_true, if_false]
    obtain ⟨g1, g2⟩ := PL.stop_spec (S := S) (T := T) s.raw
    rw [← h.next] at g1 g2
    have hv := PL.vis_of_stop g2 he
    have hle : s.raw ≤ s.next := by rw [h.next]; exact PL.le_stop _
    have hc : PL.cnt S T (s.next + 1) = s.cur + 1 := by
      have e := PL.cnt_same (S := S) (T := T) hle (fun k h1 h2 => PL.vis_false_of_not_stop (g1 k h1 h2))
      simp [PL.cnt, hv, e, h.cur]
    exact ⟨hlt, rfl, hF.stop_le hlt, hc⟩
theorem Good.ff {S : Int → Bool} {T : List Int} {EE : Nat} {s : PL.St} (hF : PL.First T EE) (r : Int) (h : Good S T EE s) : Good S T EE (s.ff S T EE r) := by
  have hR : PL.ffRaw EE r s.raw ≤ EE ∧ s.raw ≤ PL.ffRaw EE r s.raw := by
    have := h.raw
    unfold PL.ffRaw; split <;> omega
  unfold PL.St.ff
  refine ⟨hR.1, rfl, hF.stop_le hR.1, ?_⟩
  have := PL.cnt_mono (S := S) (T := T) hR.2
  have h2 := h.cur
  show PL.cnt S T (PL.ffRaw EE r s.raw) = s.cur + (PL.cnt S T (PL.ffRaw EE r s.raw) - PL.cnt S T s.raw)
  omega
theorem Good.curLe {S : Int → Bool} {T : List Int} {EE : Nat} {s : PL.St} (h : Good S T EE s) : s.cur ≤ EE := by
  have := PL.cnt_le (S := S) (T := T) s.raw
  have := h.cur
  have := h.raw
  omega
theorem and7 (B : Nat) (h : B < 256) : bits BinOp.and IntKind.u8 (B : Int) 7 = ((B % 8 : Nat) : Int) := by
  have : (List.range 256).all (fun B => decide (bits BinOp.and IntKind.u8 (B : Int) 7 = ((B % 8 : Nat) : Int))) = true := by kernel_rfl
  have := List.all_eq_true.1 this B (List.mem_range.2 h)
  simpa using this
theorem and3 (A : Nat) (h : A < 32) : bits BinOp.and IntKind.i64 (A : Int) 3 = ((A % 4 : Nat) : Int) := by
  have : (List.range 32).all (fun B => decide (bits BinOp.and IntKind.i64 (B : Int) 3 = ((B % 4 : Nat) : Int))) = true := by kernel_rfl
  have := List.all_eq_true.1 this A (List.mem_range.2 h)
  simpa using this
end Tp
end Go.Proofs.Ytomfonilbenhbaa
