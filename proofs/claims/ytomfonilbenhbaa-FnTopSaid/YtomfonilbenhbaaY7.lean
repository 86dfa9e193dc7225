/-
  PeekAny with FnTop's match function: the first token from the raw cursor that is a stop or bears the type. Conditions: the stream ends in EOF.
-/
import Derived.Test.YtomfonilbenhbaaY6
namespace Go.Proofs.Ytomfonilbenhbaa
open Go.RowKit
set_option linter.unusedSimpArgs false
set_option linter.unusedVariables false
namespace Tp
open Up
def mTy (mt : Int) (t : Tok) : Bool := t.ty == mt
theorem mTy_any (mt : Int) (t : Tok) (w : World) : Calls Try.prog 38 #[.agg #[.int .i64 mt], .agg #[.int .i64 t.ty, .string t.val, .string t.fn, .int .i64 t.off, .int .i64 t.line, .int .i64 t.col]] w fun e w' => e = .returned (.bool (mTy mt t)) ∧ Below w.heap.size w w' := by
  unfold mTy
  go_enter Try.func38, Try.ntmps38
  go_wp2
  go_ret
  exact ⟨rfl, ((Below.refl _ _).alloc (Nat.le_refl _) _).alloc (by simp) _⟩
theorem mTy_yes (mt : Int) (t : Tok) (w : World) (h : Hid (mTy mt t = true)) : Calls Try.prog 38 #[.agg #[.int .i64 mt], .agg #[.int .i64 t.ty, .string t.val, .string t.fn, .int .i64 t.off, .int .i64 t.line, .int .i64 t.col]] w fun e w' => e = .returned (.bool true) ∧ Below w.heap.size w w' := (mTy_any mt t w).mono fun _ _ ⟨h1, h2⟩ => ⟨by rw [h1, h.out], h2⟩
theorem mTy_no (mt : Int) (t : Tok) (w : World) (h : Hid (mTy mt t = false)) : Calls Try.prog 38 #[.agg #[.int .i64 mt], .agg #[.int .i64 t.ty, .string t.val, .string t.fn, .int .i64 t.off, .int .i64 t.line, .int .i64 t.col]] w fun e w' => e = .returned (.bool false) ∧ Below w.heap.size w w' := (mTy_any mt t w).mono fun _ _ ⟨h1, h2⟩ => ⟨by rw [h1, h.out], h2⟩
theorem put6 {w : World} {x : Nat} (t0 t : Tok) (h : Blk w x 46 #[.int .i64 t0.ty, .string t0.val, .string t0.fn, .int .i64 t0.off, .int .i64 t0.line, .int .i64 t0.col]) : Blk ((((((w.setCell ⟨x, 0, none⟩ (.int .i64 t.ty)).setCell ⟨x, 1, none⟩ (.string t.val)).setCell ⟨x, 2, none⟩ (.string t.fn)).setCell ⟨x, 3, none⟩ (.int .i64 t.off)).setCell ⟨x, 4, none⟩ (.int .i64 t.line)).setCell ⟨x, 5, none⟩ (.int .i64 t.col)) x 46 #[.int .i64 t.ty, .string t.val, .string t.fn, .int .i64 t.off, .int .i64 t.line, .int .i64 t.col] := by
  have h' := (((((h.set 0 (.int .i64 t.ty)).set 1 (.string t.val)).set 2 (.string t.fn)).set 3 (.int .i64 t.off)).set 4 (.int .i64 t.line)).set 5 (.int .i64 t.col)
  simpa using h'
theorem grown6 (w : World) (x : Nat) (t : Tok) : w.grownBy ((((((w.setCell ⟨x, 0, none⟩ (.int .i64 t.ty)).setCell ⟨x, 1, none⟩ (.string t.val)).setCell ⟨x, 2, none⟩ (.string t.fn)).setCell ⟨x, 3, none⟩ (.int .i64 t.off)).setCell ⟨x, 4, none⟩ (.int .i64 t.line)).setCell ⟨x, 5, none⟩ (.int .i64 t.col)) (some x) := by
  have h0 := grown_setCell (p := ⟨x, 0, none⟩) (World.grownBy.refl w (some x)) (Or.inl rfl) (.int .i64 t.ty)
  have h1 := grown_setCell (p := ⟨x, 1, none⟩) h0 (Or.inl rfl) (.string t.val)
  have h2 := grown_setCell (p := ⟨x, 2, none⟩) h1 (Or.inl rfl) (.string t.fn)
  have h3 := grown_setCell (p := ⟨x, 3, none⟩) h2 (Or.inl rfl) (.int .i64 t.off)
  have h4 := grown_setCell (p := ⟨x, 4, none⟩) h3 (Or.inl rfl) (.int .i64 t.line)
  exact grown_setCell (p := ⟨x, 5, none⟩) h4 (Or.inl rfl) (.int .i64 t.col)
/-- What the region loads. -/
theorem heldP {w0 w' : World} {pb tb mb c nm x m : Nat} {L : List Tok} {S : Int → Bool} {raw next cur : Int} {t : Tok} (h : Lx w' pb tb mb c nm L S raw next cur) (k : Blk w' x 46 #[.int .i64 t.ty, .string t.val, .string t.fn, .int .i64 t.off, .int .i64 t.line, .int .i64 t.col]) (hb : Below w0.heap.size w0 w')
    (HT : Hid (t = L.getD m eofTok)) (hm : m < L.length) :
    Lx w' pb tb mb c nm L S raw next cur ∧ Blk w' x 46 #[.int .i64 t.ty, .string t.val, .string t.fn, .int .i64 t.off, .int .i64 t.line, .int .i64 t.col] ∧ Below w0.heap.size w0 w' ∧ w'.cell? ⟨pb, 0, none⟩ = some (.int .i64 raw) ∧ w'.cell? ⟨pb, 1, none⟩ = some (.int .i64 next) ∧ w'.cell? ⟨pb, 2, none⟩ = some (.int .i64 cur) ∧ w'.cell? ⟨pb, 3, none⟩ = some (.slice (some ⟨tb, 0, none⟩) L.length c) ∧ w'.cell? ⟨pb, 4, none⟩ = some (.map (some mb)) ∧ w'.cell? ⟨x, 0, none⟩ = some (.int .i64 t.ty) ∧ w'.cell? ⟨x, 1, none⟩ = some (.string t.val) ∧ w'.cell? ⟨x, 2, none⟩ = some (.string t.fn) ∧ w'.cell? ⟨x, 3, none⟩ = some (.int .i64 t.off) ∧ w'.cell? ⟨x, 4, none⟩ = some (.int .i64 t.line) ∧ w'.cell? ⟨x, 5, none⟩ = some (.int .i64 t.col) ∧ (Instr.lookup 50 (.map (some mb)) (.int .i64 t.ty) false).run Try.prog w' = .ok (.bool (S t.ty)) w' := by
  obtain ⟨c0, c1, c2, c3, c4⟩ := h.cells
  have lk := h.looks hm
  rw [← HT.out] at lk
  exact ⟨h, k, hb, c0, c1, c2, c3, c4, k.cell 0, k.cell 1, k.cell 2, k.cell 3, k.cell 4, k.cell 5, lk⟩

/-- What PeekAny answers. -/
def AnyPost (w : World) (L : List Tok) (S : Int → Bool) (M : Tok → Bool) (raw : Nat) (e : Ending) (w' : World) : Prop :=
  ∃ m t, t = L.getD m eofTok ∧ e = .returned (.tuple #[.agg #[.int .i64 t.ty, .string t.val, .string t.fn, .int .i64 t.off, .int .i64 t.line, .int .i64 t.col], .int .i64 m]) ∧ raw ≤ m ∧ m < L.length ∧ (∀ i, raw ≤ i → i < m → PL.isStop S (types L) i = false ∧ M (L.getD i eofTok) = false) ∧
    (PL.isStop S (types L) m = true ∨ M t = true) ∧ Below w.heap.size w w'

set_option maxHeartbeats 4000000 in
set_option maxRecDepth 100000 in
theorem peekAnyMatch (mt : Int) (w : World) (pb tb mb c nm : Nat) (L : List Tok) (S : Int → Bool) (raw : Nat) (next cur : Int) (h : Lx w pb tb mb c nm L S raw next cur) (hs : PL.stop S (types L) raw < L.length) :
    Calls Try.prog 37 #[.pointer (some ⟨pb, 0, none⟩), .func (.func 38) #[.agg #[.int .i64 mt]] #[]] w (AnyPost w L S (mTy mt) raw) := by
  have HS := Lib.hid hs; clear hs
  have hlen := h.len
  have hrl : raw < L.length := Nat.lt_of_le_of_lt (PL.le_stop raw) HS.out
  obtain ⟨p0, p1, p2, p3, p4⟩ := h.cells
  have hpl := h.blk.lt
  have HH := Lib.hid h; clear h
  go_enter Try.func37, Try.ntmps37
  go_wp2_with fail
  have B0 := (Below.refl w.heap.size w).alloc (Nat.le_refl _) (.cells #[.int .i64 (⟨0, ByteArray.empty, ByteArray.empty, 0, 0, 0⟩ : Tok).ty, .string (⟨0, ByteArray.empty, ByteArray.empty, 0, 0, 0⟩ : Tok).val, .string (⟨0, ByteArray.empty, ByteArray.empty, 0, 0, 0⟩ : Tok).fn, .int .i64 (⟨0, ByteArray.empty, ByteArray.empty, 0, 0, 0⟩ : Tok).off, .int .i64 (⟨0, ByteArray.empty, ByteArray.empty, 0, 0, 0⟩ : Tok).line, .int .i64 (⟨0, ByteArray.empty, ByteArray.empty, 0, 0, 0⟩ : Tok).col] 46)
  have K0 := Blk.new w 46 #[.int .i64 (⟨0, ByteArray.empty, ByteArray.empty, 0, 0, 0⟩ : Tok).ty, .string (⟨0, ByteArray.empty, ByteArray.empty, 0, 0, 0⟩ : Tok).val, .string (⟨0, ByteArray.empty, ByteArray.empty, 0, 0, 0⟩ : Tok).fn, .int .i64 (⟨0, ByteArray.empty, ByteArray.empty, 0, 0, 0⟩ : Tok).off, .int .i64 (⟨0, ByteArray.empty, ByteArray.empty, 0, 0, 0⟩ : Tok).line, .int .i64 (⟨0, ByteArray.empty, ByteArray.empty, 0, 0, 0⟩ : Tok).col]
  have X0 := HH.out.alloc (.cells #[.int .i64 (⟨0, ByteArray.empty, ByteArray.empty, 0, 0, 0⟩ : Tok).ty, .string (⟨0, ByteArray.empty, ByteArray.empty, 0, 0, 0⟩ : Tok).val, .string (⟨0, ByteArray.empty, ByteArray.empty, 0, 0, 0⟩ : Tok).fn, .int .i64 (⟨0, ByteArray.empty, ByteArray.empty, 0, 0, 0⟩ : Tok).off, .int .i64 (⟨0, ByteArray.empty, ByteArray.empty, 0, 0, 0⟩ : Tok).line, .int .i64 (⟨0, ByteArray.empty, ByteArray.empty, 0, 0, 0⟩ : Tok).col] 46)
  obtain ⟨x, hx⟩ : ∃ x, x = w.heap.size := ⟨_, rfl⟩
  have hxw : w.heap.size ≤ x := by omega
  rw [← hx] at K0 ⊢
  clear hx
  clear p0 p1 p2 p3 p4 hpl
  go_loopg [6] (L.length - raw) (fun k p wr => ∃ (m : Nat) (t0 : Tok), k = L.length - m ∧ raw ≤ m ∧ m ≤ PL.stop S (types L) raw ∧ p = .int .i64 m ∧ (∀ i, raw ≤ i → i < m → PL.isStop S (types L) i = false ∧ (mTy mt) (L.getD i eofTok) = false) ∧
    Lx wr pb tb mb c nm L S raw next cur ∧ Blk wr x 46 #[.int .i64 t0.ty, .string t0.val, .string t0.fn, .int .i64 t0.off, .int .i64 t0.line, .int .i64 t0.col] ∧ Below w.heap.size w wr)
  case atStart => exact ⟨raw, ⟨0, ByteArray.empty, ByteArray.empty, 0, 0, 0⟩, rfl, Nat.le_refl _, PL.le_stop _, rfl, fun i h1 h2 => absurd h1 (by omega), X0, K0, B0⟩
  case round =>
    obtain ⟨m, t0, hk, hm0, hm1, rfl, hall, hx, kx, hb⟩ := hrel
    clear X0 K0 B0
    have hml : m < L.length := Nat.lt_of_le_of_lt hm1 HS.out
    obtain ⟨t, ht⟩ : ∃ t, t = L.getD m eofTok := ⟨_, rfl⟩
    have HT := Lib.hid ht; clear ht
    have KK := Lib.hid hk; clear hk
    have HA := Lib.hid hall; clear hall
    obtain ⟨-, -, p0, p1, p2, p3, p4, y0, y1, y2, y3, y4, y5, -⟩ := hx.held (World.grownBy.refl _ _) HT hml
    have hi0 : (0 : Int) ≤ (m : Int) := by omega
    have hi1 : (m : Int) < (L.length : Int) := by omega
    have q0 := kx.cell 0
    have q1 := kx.cell 1
    have q2 := kx.cell 2
    have q3 := kx.cell 3
    have q4 := kx.cell 4
    have q5 := kx.cell 5
    simp at q0 q1 q2 q3 q4 q5
    have z0 := kx.frozen 0
    have z1 := kx.frozen 1
    have z2 := kx.frozen 2
    have z3 := kx.frozen 3
    have z4 := kx.frozen 4
    have z5 := kx.frozen 5
    go_wp2_with fail
    clear p0 p1 p2 p3 p4 y0 y1 y2 y3 y4 y5 q0 q1 q2 q3 q4 q5 z0 z1 z2 z3 z4 z5
    have g6 := grown6 wr x t
    have k6 := put6 t0 t kx
    have x6 := hx.grown g6 (by have := HH.out.blk.lt; simp; omega) (by have := HH.out.row.lt; simp; omega) (by have := HH.out.set.lt; simp; omega)
    have b6 := hb.grown g6 hb.size (fun k hk => by injection hk with hk; omega)
    clear g6 hx kx hb
    obtain ⟨w6, hw6⟩ : ∃ w6, w6 = ((((((wr.setCell ⟨x, 0, none⟩ (.int .i64 t.ty)).setCell ⟨x, 1, none⟩ (.string t.val)).setCell ⟨x, 2, none⟩ (.string t.fn)).setCell ⟨x, 3, none⟩ (.int .i64 t.off)).setCell ⟨x, 4, none⟩ (.int .i64 t.line)).setCell ⟨x, 5, none⟩ (.int .i64 t.col)) := ⟨_, rfl⟩
    rw [← hw6] at k6 x6 b6 ⊢
    clear hw6
    have hist : PL.isStop S (types L) m = (t.ty == -1 || !S t.ty) := by unfold PL.isStop; rw [at_types, ← HT.out]
    have HI := Lib.hid hist; clear hist
    by_cases hE : t.ty = -1
    case pos =>
      have HE := Lib.hid hE; clear hE
      have HR : Hid (PL.isStop S (types L) m = true ∨ (mTy mt) t = true) := Lib.hid (Or.inl (by rw [HI.out, HE.out]; rfl))
      refine wp_region_held_drew (S := (fun w' => Lx w' pb tb mb c nm L S raw next cur ∧ Blk w' x 46 #[.int .i64 t.ty, .string t.val, .string t.fn, .int .i64 t.off, .int .i64 t.line, .int .i64 t.col] ∧ Below w.heap.size w w' ∧ w'.cell? ⟨pb, 0, none⟩ = some (.int .i64 (raw : Nat)) ∧ w'.cell? ⟨pb, 1, none⟩ = some (.int .i64 next) ∧ w'.cell? ⟨pb, 2, none⟩ = some (.int .i64 cur) ∧ w'.cell? ⟨pb, 3, none⟩ = some (.slice (some ⟨tb, 0, none⟩) L.length c) ∧ w'.cell? ⟨pb, 4, none⟩ = some (.map (some mb)) ∧ w'.cell? ⟨x, 0, none⟩ = some (.int .i64 t.ty) ∧ w'.cell? ⟨x, 1, none⟩ = some (.string t.val) ∧ w'.cell? ⟨x, 2, none⟩ = some (.string t.fn) ∧ w'.cell? ⟨x, 3, none⟩ = some (.int .i64 t.off) ∧ w'.cell? ⟨x, 4, none⟩ = some (.int .i64 t.line) ∧ w'.cell? ⟨x, 5, none⟩ = some (.int .i64 t.col) ∧ (Instr.lookup 50 (.map (some mb)) (.int .i64 t.ty) false).run Try.prog w' = .ok (.bool (S t.ty)) w')) (by kernel_rfl) (heldP x6.drew k6.drew b6.drew HT hml) (fun hHeld => ?_)
      refine wpAnyH_take (i := 0) (v := ?_) rfl (by kernel_rfl) (by kernel_rfl) (by kernel_rfl) (fun _ _ _ h => h) (Or.inl ⟨by rfl, ?_⟩) (by assumption) ?_
      rotate_left
      · (intro w hSw; (try dsimp only at hSw); go_simp; try (with_reducible rfl))
      try simp only [Act.put, List.getElem_toArray, List.getElem_cons_zero, List.getElem_cons_succ, List.setIfInBounds_toArray, List.set_cons_zero, List.set_cons_succ]
      refine wpAnyH_ready (rs := [1]) (by kernel_rfl) (by simp) ?_
      refine AllReadyH.cons rfl (fun K hK => ?_) AllReadyH.nil
      go_simp
      refine (eof_yes t _ HE).mono ?_
      rintro e w' ⟨rfl, hbl⟩
      refine hK.out _ _ (heldP (Lx.later x6.drew hbl) (Blk.later k6.drew hbl) (below_next hbl b6.drew) HT hml) (fun hHeld => ?_)
      clear hK K
      try simp only [Act.put, List.getElem_toArray, List.getElem_cons_zero, List.getElem_cons_succ, List.setIfInBounds_toArray, List.set_cons_zero, List.set_cons_succ]
      refine wpAnyH_take (i := 2) (v := ?_) rfl (by kernel_rfl) (by kernel_rfl) (by kernel_rfl) (fun _ _ _ h => h) (Or.inl ⟨by rfl, ?_⟩) (by assumption) ?_
      rotate_left
      · (intro w hSw; (try dsimp only at hSw); go_simp; try (with_reducible rfl))
      try simp only [Act.put, List.getElem_toArray, List.getElem_cons_zero, List.getElem_cons_succ, List.setIfInBounds_toArray, List.set_cons_zero, List.set_cons_succ]
      refine wpAnyH_take (i := 3) (v := undef) rfl (by kernel_rfl) (by kernel_rfl) (by kernel_rfl) (fun _ _ _ h => h) (Or.inr ⟨by rfl, rfl⟩) (by assumption) ?_
      try simp only [Act.put, List.getElem_toArray, List.getElem_cons_zero, List.getElem_cons_succ, List.setIfInBounds_toArray, List.set_cons_zero, List.set_cons_succ]
      refine wpAnyH_take (i := 4) (v := undef) rfl (by kernel_rfl) (by kernel_rfl) (by kernel_rfl) (fun _ _ _ h => h) (Or.inr ⟨by rfl, rfl⟩) (by assumption) ?_
      try simp only [Act.put, List.getElem_toArray, List.getElem_cons_zero, List.getElem_cons_succ, List.setIfInBounds_toArray, List.set_cons_zero, List.set_cons_succ]
      refine wpAnyH_take (i := 5) (v := undef) rfl (by kernel_rfl) (by kernel_rfl) (by kernel_rfl) (fun _ _ _ h => h) (Or.inr ⟨by rfl, rfl⟩) (by assumption) ?_
      try simp only [Act.put, List.getElem_toArray, List.getElem_cons_zero, List.getElem_cons_succ, List.setIfInBounds_toArray, List.set_cons_zero, List.set_cons_succ]
      refine wpAnyH_take (i := 6) (v := ?_) rfl (by kernel_rfl) (by kernel_rfl) (by kernel_rfl) (fun _ _ _ h => h) (Or.inl ⟨by rfl, ?_⟩) (by assumption) ?_
      rotate_left
      · (intro w hSw; (try dsimp only at hSw); go_simp; try (with_reducible rfl))
      try simp only [Act.put, List.getElem_toArray, List.getElem_cons_zero, List.getElem_cons_succ, List.setIfInBounds_toArray, List.set_cons_zero, List.set_cons_succ]
      refine wpAnyH_take (i := 7) (v := ?_) rfl (by kernel_rfl) (by kernel_rfl) (by kernel_rfl) (fun _ _ _ h => h) (Or.inl ⟨by rfl, ?_⟩) (by assumption) ?_
      rotate_left
      · (intro w hSw; (try dsimp only at hSw); go_simp; try (with_reducible rfl))
      try simp only [Act.put, List.getElem_toArray, List.getElem_cons_zero, List.getElem_cons_succ, List.setIfInBounds_toArray, List.set_cons_zero, List.set_cons_succ]
      refine wpAnyH_take (i := 8) (v := undef) rfl (by kernel_rfl) (by kernel_rfl) (by kernel_rfl) (fun _ _ _ h => h) (Or.inr ⟨by rfl, rfl⟩) (by assumption) ?_
      try simp only [Act.put, List.getElem_toArray, List.getElem_cons_zero, List.getElem_cons_succ, List.setIfInBounds_toArray, List.set_cons_zero, List.set_cons_succ]
      refine wpAnyH_take (i := 9) (v := undef) rfl (by kernel_rfl) (by kernel_rfl) (by kernel_rfl) (fun _ _ _ h => h) (Or.inr ⟨by rfl, rfl⟩) (by assumption) ?_
      try simp only [Act.put, List.getElem_toArray, List.getElem_cons_zero, List.getElem_cons_succ, List.setIfInBounds_toArray, List.set_cons_zero, List.set_cons_succ]
      refine wpAnyH_take (i := 10) (v := undef) rfl (by kernel_rfl) (by kernel_rfl) (by kernel_rfl) (fun _ _ _ h => h) (Or.inr ⟨by rfl, rfl⟩) (by assumption) ?_
      try simp only [Act.put, List.getElem_toArray, List.getElem_cons_zero, List.getElem_cons_succ, List.setIfInBounds_toArray, List.set_cons_zero, List.set_cons_succ]
      refine wpAnyH_take (i := 11) (v := undef) rfl (by kernel_rfl) (by kernel_rfl) (by kernel_rfl) (fun _ _ _ h => h) (Or.inr ⟨by rfl, rfl⟩) (by assumption) ?_
      try simp only [Act.put, List.getElem_toArray, List.getElem_cons_zero, List.getElem_cons_succ, List.setIfInBounds_toArray, List.set_cons_zero, List.set_cons_succ]
      refine wpAnyH_take (i := 12) (v := undef) rfl (by kernel_rfl) (by kernel_rfl) (by kernel_rfl) (fun _ _ _ h => h) (Or.inr ⟨by rfl, rfl⟩) (by assumption) ?_
      try simp only [Act.put, List.getElem_toArray, List.getElem_cons_zero, List.getElem_cons_succ, List.setIfInBounds_toArray, List.set_cons_zero, List.set_cons_succ]
      refine wpAnyH_take (i := 13) (v := undef) rfl (by kernel_rfl) (by kernel_rfl) (by kernel_rfl) (fun _ _ _ h => h) (Or.inr ⟨by rfl, rfl⟩) (by assumption) ?_
      try simp only [Act.put, List.getElem_toArray, List.getElem_cons_zero, List.getElem_cons_succ, List.setIfInBounds_toArray, List.set_cons_zero, List.set_cons_succ]
      refine wpAnyH_take (i := 14) (v := undef) rfl (by kernel_rfl) (by kernel_rfl) (by kernel_rfl) (fun _ _ _ h => h) (Or.inr ⟨by rfl, rfl⟩) (by assumption) ?_
      try simp only [Act.put, List.getElem_toArray, List.getElem_cons_zero, List.getElem_cons_succ, List.setIfInBounds_toArray, List.set_cons_zero, List.set_cons_succ]
      refine wpAnyH_take (i := 15) (v := undef) rfl (by kernel_rfl) (by kernel_rfl) (by kernel_rfl) (fun _ _ _ h => h) (Or.inr ⟨by rfl, rfl⟩) (by assumption) ?_
      try simp only [Act.put, List.getElem_toArray, List.getElem_cons_zero, List.getElem_cons_succ, List.setIfInBounds_toArray, List.set_cons_zero, List.set_cons_succ]
      refine wpAnyH_take (i := 16) (v := ?_) rfl (by kernel_rfl) (by kernel_rfl) (by kernel_rfl) (fun _ _ _ h => h) (Or.inl ⟨by rfl, ?_⟩) (by assumption) ?_
      rotate_left
      · (intro w hSw; (try dsimp only at hSw); go_simp; try (with_reducible rfl))
      try simp only [Act.put, List.getElem_toArray, List.getElem_cons_zero, List.getElem_cons_succ, List.setIfInBounds_toArray, List.set_cons_zero, List.set_cons_succ]
      refine wpAnyH_done (by kernel_rfl) ?_ _
      obtain ⟨x7, k7, b7, -⟩ := ‹Lx _ pb tb mb c nm L S raw next cur ∧ _›
      clear hHeld
      have q0 := k7.cell 0
      have q1 := k7.cell 1
      have q2 := k7.cell 2
      have q3 := k7.cell 3
      have q4 := k7.cell 4
      have q5 := k7.cell 5
      simp at q0 q1 q2 q3 q4 q5
      have z0 := k7.frozen 0
      have z1 := k7.frozen 1
      have z2 := k7.frozen 2
      have z3 := k7.frozen 3
      have z4 := k7.frozen 4
      have z5 := k7.frozen 5
      go_wp2_with fail
      have g8 := grown6 w' x t
      have k8 := put6 t t k7
      have b8 := b7.grown g8 b7.size (fun k hk => by injection hk with hk; omega)
      clear g8 q0 q1 q2 q3 q4 q5 z0 z1 z2 z3 z4 z5
      obtain ⟨w8, hw8⟩ : ∃ w8, w8 = ((((((w'.setCell ⟨x, 0, none⟩ (.int .i64 t.ty)).setCell ⟨x, 1, none⟩ (.string t.val)).setCell ⟨x, 2, none⟩ (.string t.fn)).setCell ⟨x, 3, none⟩ (.int .i64 t.off)).setCell ⟨x, 4, none⟩ (.int .i64 t.line)).setCell ⟨x, 5, none⟩ (.int .i64 t.col)) := ⟨_, rfl⟩
      rw [← hw8] at k8 b8 ⊢
      clear hw8
      have q0 := k8.cell 0
      have q1 := k8.cell 1
      have q2 := k8.cell 2
      have q3 := k8.cell 3
      have q4 := k8.cell 4
      have q5 := k8.cell 5
      simp at q0 q1 q2 q3 q4 q5
      refine bodyPost_ret (v := .tuple #[.agg #[.int .i64 t.ty, .string t.val, .string t.fn, .int .i64 t.off, .int .i64 t.line, .int .i64 t.col], .int .i64 m]) (by simp [results, Try.results37, go_sem, q0, q1, q2, q3, q4, q5]) rfl ⟨m, t, HT.out, rfl, hm0, hml, HA.out, HR.out, b8⟩
    case neg =>
      have HE := Lib.hid hE; clear hE
      cases hM : (mTy mt) t
      case true =>
        have HM := Lib.hid hM; clear hM
        have HR : Hid (PL.isStop S (types L) m = true ∨ (mTy mt) t = true) := Lib.hid (Or.inr HM.out)
        refine wp_region_held_drew (S := (fun w' => Lx w' pb tb mb c nm L S raw next cur ∧ Blk w' x 46 #[.int .i64 t.ty, .string t.val, .string t.fn, .int .i64 t.off, .int .i64 t.line, .int .i64 t.col] ∧ Below w.heap.size w w' ∧ w'.cell? ⟨pb, 0, none⟩ = some (.int .i64 (raw : Nat)) ∧ w'.cell? ⟨pb, 1, none⟩ = some (.int .i64 next) ∧ w'.cell? ⟨pb, 2, none⟩ = some (.int .i64 cur) ∧ w'.cell? ⟨pb, 3, none⟩ = some (.slice (some ⟨tb, 0, none⟩) L.length c) ∧ w'.cell? ⟨pb, 4, none⟩ = some (.map (some mb)) ∧ w'.cell? ⟨x, 0, none⟩ = some (.int .i64 t.ty) ∧ w'.cell? ⟨x, 1, none⟩ = some (.string t.val) ∧ w'.cell? ⟨x, 2, none⟩ = some (.string t.fn) ∧ w'.cell? ⟨x, 3, none⟩ = some (.int .i64 t.off) ∧ w'.cell? ⟨x, 4, none⟩ = some (.int .i64 t.line) ∧ w'.cell? ⟨x, 5, none⟩ = some (.int .i64 t.col) ∧ (Instr.lookup 50 (.map (some mb)) (.int .i64 t.ty) false).run Try.prog w' = .ok (.bool (S t.ty)) w')) (by kernel_rfl) (heldP x6.drew k6.drew b6.drew HT hml) (fun hHeld => ?_)
        refine wpAnyH_take (i := 0) (v := ?_) rfl (by kernel_rfl) (by kernel_rfl) (by kernel_rfl) (fun _ _ _ h => h) (Or.inl ⟨by rfl, ?_⟩) (by assumption) ?_
        rotate_left
        · (intro w hSw; (try dsimp only at hSw); go_simp; try (with_reducible rfl))
        try simp only [Act.put, List.getElem_toArray, List.getElem_cons_zero, List.getElem_cons_succ, List.setIfInBounds_toArray, List.set_cons_zero, List.set_cons_succ]
        refine wpAnyH_ready (rs := [1]) (by kernel_rfl) (by simp) ?_
        refine AllReadyH.cons rfl (fun K hK => ?_) AllReadyH.nil
        go_simp
        refine (eof_no t _ HE).mono ?_
        rintro e w9 ⟨rfl, hbl0⟩
        refine hK.out _ _ (heldP (Lx.later x6.drew hbl0) (Blk.later k6.drew hbl0) (below_next hbl0 b6.drew) HT hml) (fun hHeld => ?_)
        clear hK K
        try simp only [Act.put, List.getElem_toArray, List.getElem_cons_zero, List.getElem_cons_succ, List.setIfInBounds_toArray, List.set_cons_zero, List.set_cons_succ]
        refine wpAnyH_take (i := 2) (v := ?_) rfl (by kernel_rfl) (by kernel_rfl) (by kernel_rfl) (fun _ _ _ h => h) (Or.inl ⟨by rfl, ?_⟩) (by assumption) ?_
        rotate_left
        · (intro w hSw; (try dsimp only at hSw); go_simp; try (with_reducible rfl))
        try simp only [Act.put, List.getElem_toArray, List.getElem_cons_zero, List.getElem_cons_succ, List.setIfInBounds_toArray, List.set_cons_zero, List.set_cons_succ]
        refine wpAnyH_take (i := 3) (v := ?_) rfl (by kernel_rfl) (by kernel_rfl) (by kernel_rfl) (fun _ _ _ h => h) (Or.inl ⟨by rfl, ?_⟩) (by assumption) ?_
        rotate_left
        · (intro w hSw; (try dsimp only at hSw); go_simp; try (with_reducible rfl))
        try simp only [Act.put, List.getElem_toArray, List.getElem_cons_zero, List.getElem_cons_succ, List.setIfInBounds_toArray, List.set_cons_zero, List.set_cons_succ]
        refine wpAnyH_take (i := 4) (v := ?_) rfl (by kernel_rfl) (by kernel_rfl) (by kernel_rfl) (fun _ _ _ h => h) (Or.inl ⟨by rfl, ?_⟩) (by assumption) ?_
        rotate_left
        · (intro w hSw; (try dsimp only at hSw); go_simp; try (with_reducible rfl))
        try simp only [Act.put, List.getElem_toArray, List.getElem_cons_zero, List.getElem_cons_succ, List.setIfInBounds_toArray, List.set_cons_zero, List.set_cons_succ]
        refine wpAnyH_ready (rs := [5]) (by kernel_rfl) (by simp) ?_
        refine AllReadyH.cons rfl (fun K hK => ?_) AllReadyH.nil
        go_simp
        refine (mTy_yes mt t _ HM).mono ?_
        rintro e w' ⟨rfl, hbl⟩
        refine hK.out _ _ (heldP (Lx.later hHeld.1 hbl) (Blk.later hHeld.2.1 hbl) (below_next hbl hHeld.2.2.1) HT hml) (fun hHeld => ?_)
        clear hK K
        try simp only [Act.put, List.getElem_toArray, List.getElem_cons_zero, List.getElem_cons_succ, List.setIfInBounds_toArray, List.set_cons_zero, List.set_cons_succ]
        refine wpAnyH_take (i := 6) (v := ?_) rfl (by kernel_rfl) (by kernel_rfl) (by kernel_rfl) (fun _ _ _ h => h) (Or.inl ⟨by rfl, ?_⟩) (by assumption) ?_
        rotate_left
        · (intro w hSw; (try dsimp only at hSw); go_simp; try (with_reducible rfl))
        try simp only [Act.put, List.getElem_toArray, List.getElem_cons_zero, List.getElem_cons_succ, List.setIfInBounds_toArray, List.set_cons_zero, List.set_cons_succ]
        refine wpAnyH_take (i := 7) (v := ?_) rfl (by kernel_rfl) (by kernel_rfl) (by kernel_rfl) (fun _ _ _ h => h) (Or.inl ⟨by rfl, ?_⟩) (by assumption) ?_
        rotate_left
        · (intro w hSw; (try dsimp only at hSw); go_simp; try (with_reducible rfl))
        try simp only [Act.put, List.getElem_toArray, List.getElem_cons_zero, List.getElem_cons_succ, List.setIfInBounds_toArray, List.set_cons_zero, List.set_cons_succ]
        refine wpAnyH_take (i := 8) (v := undef) rfl (by kernel_rfl) (by kernel_rfl) (by kernel_rfl) (fun _ _ _ h => h) (Or.inr ⟨by rfl, rfl⟩) (by assumption) ?_
        try simp only [Act.put, List.getElem_toArray, List.getElem_cons_zero, List.getElem_cons_succ, List.setIfInBounds_toArray, List.set_cons_zero, List.set_cons_succ]
        refine wpAnyH_take (i := 9) (v := undef) rfl (by kernel_rfl) (by kernel_rfl) (by kernel_rfl) (fun _ _ _ h => h) (Or.inr ⟨by rfl, rfl⟩) (by assumption) ?_
        try simp only [Act.put, List.getElem_toArray, List.getElem_cons_zero, List.getElem_cons_succ, List.setIfInBounds_toArray, List.set_cons_zero, List.set_cons_succ]
        refine wpAnyH_take (i := 10) (v := undef) rfl (by kernel_rfl) (by kernel_rfl) (by kernel_rfl) (fun _ _ _ h => h) (Or.inr ⟨by rfl, rfl⟩) (by assumption) ?_
        try simp only [Act.put, List.getElem_toArray, List.getElem_cons_zero, List.getElem_cons_succ, List.setIfInBounds_toArray, List.set_cons_zero, List.set_cons_succ]
        refine wpAnyH_take (i := 11) (v := undef) rfl (by kernel_rfl) (by kernel_rfl) (by kernel_rfl) (fun _ _ _ h => h) (Or.inr ⟨by rfl, rfl⟩) (by assumption) ?_
        try simp only [Act.put, List.getElem_toArray, List.getElem_cons_zero, List.getElem_cons_succ, List.setIfInBounds_toArray, List.set_cons_zero, List.set_cons_succ]
        refine wpAnyH_take (i := 12) (v := undef) rfl (by kernel_rfl) (by kernel_rfl) (by kernel_rfl) (fun _ _ _ h => h) (Or.inr ⟨by rfl, rfl⟩) (by assumption) ?_
        try simp only [Act.put, List.getElem_toArray, List.getElem_cons_zero, List.getElem_cons_succ, List.setIfInBounds_toArray, List.set_cons_zero, List.set_cons_succ]
        refine wpAnyH_take (i := 13) (v := undef) rfl (by kernel_rfl) (by kernel_rfl) (by kernel_rfl) (fun _ _ _ h => h) (Or.inr ⟨by rfl, rfl⟩) (by assumption) ?_
        try simp only [Act.put, List.getElem_toArray, List.getElem_cons_zero, List.getElem_cons_succ, List.setIfInBounds_toArray, List.set_cons_zero, List.set_cons_succ]
        refine wpAnyH_take (i := 14) (v := undef) rfl (by kernel_rfl) (by kernel_rfl) (by kernel_rfl) (fun _ _ _ h => h) (Or.inr ⟨by rfl, rfl⟩) (by assumption) ?_
        try simp only [Act.put, List.getElem_toArray, List.getElem_cons_zero, List.getElem_cons_succ, List.setIfInBounds_toArray, List.set_cons_zero, List.set_cons_succ]
        refine wpAnyH_take (i := 15) (v := undef) rfl (by kernel_rfl) (by kernel_rfl) (by kernel_rfl) (fun _ _ _ h => h) (Or.inr ⟨by rfl, rfl⟩) (by assumption) ?_
        try simp only [Act.put, List.getElem_toArray, List.getElem_cons_zero, List.getElem_cons_succ, List.setIfInBounds_toArray, List.set_cons_zero, List.set_cons_succ]
        refine wpAnyH_take (i := 16) (v := ?_) rfl (by kernel_rfl) (by kernel_rfl) (by kernel_rfl) (fun _ _ _ h => h) (Or.inl ⟨by rfl, ?_⟩) (by assumption) ?_
        rotate_left
        · (intro w hSw; (try dsimp only at hSw); go_simp; try (with_reducible rfl))
        try simp only [Act.put, List.getElem_toArray, List.getElem_cons_zero, List.getElem_cons_succ, List.setIfInBounds_toArray, List.set_cons_zero, List.set_cons_succ]
        refine wpAnyH_done (by kernel_rfl) ?_ _
        obtain ⟨x7, k7, b7, -⟩ := ‹Lx _ pb tb mb c nm L S raw next cur ∧ _›
        clear hHeld
        have q0 := k7.cell 0
        have q1 := k7.cell 1
        have q2 := k7.cell 2
        have q3 := k7.cell 3
        have q4 := k7.cell 4
        have q5 := k7.cell 5
        simp at q0 q1 q2 q3 q4 q5
        have z0 := k7.frozen 0
        have z1 := k7.frozen 1
        have z2 := k7.frozen 2
        have z3 := k7.frozen 3
        have z4 := k7.frozen 4
        have z5 := k7.frozen 5
        go_wp2_with fail
        have g8 := grown6 w' x t
        have k8 := put6 t t k7
        have b8 := b7.grown g8 b7.size (fun k hk => by injection hk with hk; omega)
        clear g8 q0 q1 q2 q3 q4 q5 z0 z1 z2 z3 z4 z5
        obtain ⟨w8, hw8⟩ : ∃ w8, w8 = ((((((w'.setCell ⟨x, 0, none⟩ (.int .i64 t.ty)).setCell ⟨x, 1, none⟩ (.string t.val)).setCell ⟨x, 2, none⟩ (.string t.fn)).setCell ⟨x, 3, none⟩ (.int .i64 t.off)).setCell ⟨x, 4, none⟩ (.int .i64 t.line)).setCell ⟨x, 5, none⟩ (.int .i64 t.col)) := ⟨_, rfl⟩
        rw [← hw8] at k8 b8 ⊢
        clear hw8
        have q0 := k8.cell 0
        have q1 := k8.cell 1
        have q2 := k8.cell 2
        have q3 := k8.cell 3
        have q4 := k8.cell 4
        have q5 := k8.cell 5
        simp at q0 q1 q2 q3 q4 q5
        refine bodyPost_ret (v := .tuple #[.agg #[.int .i64 t.ty, .string t.val, .string t.fn, .int .i64 t.off, .int .i64 t.line, .int .i64 t.col], .int .i64 m]) (by simp [results, Try.results37, go_sem, q0, q1, q2, q3, q4, q5]) rfl ⟨m, t, HT.out, rfl, hm0, hml, HA.out, HR.out, b8⟩
      case false =>
        have HM := Lib.hid hM; clear hM
        cases hS : S t.ty
        case false =>
          have HR : Hid (PL.isStop S (types L) m = true ∨ (mTy mt) t = true) := Lib.hid (Or.inl (by rw [HI.out, hS, Bool.not_false, Bool.or_true]))
          go_region_held3 (fun w' => Lx w' pb tb mb c nm L S raw next cur ∧ Blk w' x 46 #[.int .i64 t.ty, .string t.val, .string t.fn, .int .i64 t.off, .int .i64 t.line, .int .i64 t.col] ∧ Below w.heap.size w w' ∧ w'.cell? ⟨pb, 0, none⟩ = some (.int .i64 (raw : Nat)) ∧ w'.cell? ⟨pb, 1, none⟩ = some (.int .i64 next) ∧ w'.cell? ⟨pb, 2, none⟩ = some (.int .i64 cur) ∧ w'.cell? ⟨pb, 3, none⟩ = some (.slice (some ⟨tb, 0, none⟩) L.length c) ∧ w'.cell? ⟨pb, 4, none⟩ = some (.map (some mb)) ∧ w'.cell? ⟨x, 0, none⟩ = some (.int .i64 t.ty) ∧ w'.cell? ⟨x, 1, none⟩ = some (.string t.val) ∧ w'.cell? ⟨x, 2, none⟩ = some (.string t.fn) ∧ w'.cell? ⟨x, 3, none⟩ = some (.int .i64 t.off) ∧ w'.cell? ⟨x, 4, none⟩ = some (.int .i64 t.line) ∧ w'.cell? ⟨x, 5, none⟩ = some (.int .i64 t.col) ∧ (Instr.lookup 50 (.map (some mb)) (.int .i64 t.ty) false).run Try.prog w' = .ok (.bool (S t.ty)) w')
            (first | assumption | exact heldP x6.drew k6.drew b6.drew HT hml | (go_split_ands; exact heldP (Lx.later (by assumption) hbl) (Blk.later (by assumption) hbl) (below_next hbl (by assumption)) HT hml))
            (first | (go_at_call 36; refine (eof_no t _ HE).mono ?_; rintro e w' ⟨rfl, hbl⟩) | (go_at_call 38; refine (mTy_no mt t _ HM).mono ?_; rintro e w' ⟨rfl, hbl⟩))
          obtain ⟨x7, k7, b7, -⟩ := ‹Lx _ pb tb mb c nm L S raw next cur ∧ _›
          have q0 := k7.cell 0
          have q1 := k7.cell 1
          have q2 := k7.cell 2
          have q3 := k7.cell 3
          have q4 := k7.cell 4
          have q5 := k7.cell 5
          simp at q0 q1 q2 q3 q4 q5
          have z0 := k7.frozen 0
          have z1 := k7.frozen 1
          have z2 := k7.frozen 2
          have z3 := k7.frozen 3
          have z4 := k7.frozen 4
          have z5 := k7.frozen 5
          go_wp2_with fail
          have g8 := grown6 w' x t
          have k8 := put6 t t k7
          have b8 := b7.grown g8 b7.size (fun k hk => by injection hk with hk; omega)
          clear g8 q0 q1 q2 q3 q4 q5 z0 z1 z2 z3 z4 z5
          obtain ⟨w8, hw8⟩ : ∃ w8, w8 = ((((((w'.setCell ⟨x, 0, none⟩ (.int .i64 t.ty)).setCell ⟨x, 1, none⟩ (.string t.val)).setCell ⟨x, 2, none⟩ (.string t.fn)).setCell ⟨x, 3, none⟩ (.int .i64 t.off)).setCell ⟨x, 4, none⟩ (.int .i64 t.line)).setCell ⟨x, 5, none⟩ (.int .i64 t.col)) := ⟨_, rfl⟩
          rw [← hw8] at k8 b8 ⊢
          clear hw8
          have q0 := k8.cell 0
          have q1 := k8.cell 1
          have q2 := k8.cell 2
          have q3 := k8.cell 3
          have q4 := k8.cell 4
          have q5 := k8.cell 5
          simp at q0 q1 q2 q3 q4 q5
          refine bodyPost_ret (v := .tuple #[.agg #[.int .i64 t.ty, .string t.val, .string t.fn, .int .i64 t.off, .int .i64 t.line, .int .i64 t.col], .int .i64 m]) (by simp [results, Try.results37, go_sem, q0, q1, q2, q3, q4, q5]) rfl ⟨m, t, HT.out, rfl, hm0, hml, HA.out, HR.out, b8⟩
        case true =>
          go_region_held3 (fun w' => Lx w' pb tb mb c nm L S raw next cur ∧ Blk w' x 46 #[.int .i64 t.ty, .string t.val, .string t.fn, .int .i64 t.off, .int .i64 t.line, .int .i64 t.col] ∧ Below w.heap.size w w' ∧ w'.cell? ⟨pb, 0, none⟩ = some (.int .i64 (raw : Nat)) ∧ w'.cell? ⟨pb, 1, none⟩ = some (.int .i64 next) ∧ w'.cell? ⟨pb, 2, none⟩ = some (.int .i64 cur) ∧ w'.cell? ⟨pb, 3, none⟩ = some (.slice (some ⟨tb, 0, none⟩) L.length c) ∧ w'.cell? ⟨pb, 4, none⟩ = some (.map (some mb)) ∧ w'.cell? ⟨x, 0, none⟩ = some (.int .i64 t.ty) ∧ w'.cell? ⟨x, 1, none⟩ = some (.string t.val) ∧ w'.cell? ⟨x, 2, none⟩ = some (.string t.fn) ∧ w'.cell? ⟨x, 3, none⟩ = some (.int .i64 t.off) ∧ w'.cell? ⟨x, 4, none⟩ = some (.int .i64 t.line) ∧ w'.cell? ⟨x, 5, none⟩ = some (.int .i64 t.col) ∧ (Instr.lookup 50 (.map (some mb)) (.int .i64 t.ty) false).run Try.prog w' = .ok (.bool (S t.ty)) w')
            (first | assumption | exact heldP x6.drew k6.drew b6.drew HT hml | (go_split_ands; exact heldP (Lx.later (by assumption) hbl) (Blk.later (by assumption) hbl) (below_next hbl (by assumption)) HT hml))
            (first | (go_at_call 36; refine (eof_no t _ HE).mono ?_; rintro e w' ⟨rfl, hbl⟩) | (go_at_call 38; refine (mTy_no mt t _ HM).mono ?_; rintro e w' ⟨rfl, hbl⟩))
          obtain ⟨x7, k7, b7, -⟩ := ‹Lx _ pb tb mb c nm L S raw next cur ∧ _›
          have hns : PL.isStop S (types L) m = false := by rw [HI.out, hS, beq_eq_false_iff_ne.2 HE.out]; rfl
          have hne : m ≠ PL.stop S (types L) raw := fun e => by
            have := (PL.stop_spec (S := S) (T := types L) raw).2
            rw [← e, hns] at this; cases this
          have HNS := Lib.hid hns; clear hns
          go_wp2_with fail
          go_roundg (L.length - (m + 1))
          case measure => rw [KK.out]; omega
          case rel =>
            refine ⟨m + 1, t, rfl, by omega, by omega, by go_num, fun i h1 h2 => ?_, x7, k7, b7⟩
            rcases Nat.lt_or_ge i m with g | g
            · exact HA.out i h1 g
            · have e : i = m := by omega
              rw [e, ← HT.out]
              exact ⟨HNS.out, HM.out⟩

end Tp
end Go.Proofs.Ytomfonilbenhbaa
