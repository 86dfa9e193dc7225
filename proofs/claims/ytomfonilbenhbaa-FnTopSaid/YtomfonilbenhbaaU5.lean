/-
  What one call of zzReplay's Next gives: a token of the list, or the error. Conditions: the replaying lexer's memory is as 'Blk', 'Row' say.
-/
import Derived.Test.YtomfonilbenhbaaU4
import Derived.StillTailTactics
namespace Go.Proofs.Ytomfonilbenhbaa
open Go.RowKit
set_option linter.unusedSimpArgs false
set_option linter.unusedVariables false
namespace Up
/-- The cells of a replaying lexer. -/
def rpCells (tb n c : Nat) (i fa ca : Int) (ev : Value) : Array Value := #[.slice (some ⟨tb, 0, none⟩) n c, .int .i64 i, .int .i64 fa, .int .i64 ca, ev]
def zeroAgg : Value := .agg #[.int .i64 0, .string ByteArray.empty, .string ByteArray.empty, .int .i64 0, .int .i64 0, .int .i64 0]
/-- The world that a call of Next ends in: the lexer's two cells stored, the result's six cells stored, one block more. -/
def endW (w : World) (zb : Nat) (o0 o1 : Obj) (q : Nat) (u v : Value) (k : Nat) (x0 x1 x2 x3 x4 x5 : Value) : World :=
  (set6 ((((w.setCell ⟨zb, 3, none⟩ u).alloc o0).drewN q).setCell ⟨zb, k, none⟩ v) w.heap.size x0 x1 x2 x3 x4 x5).alloc o1
theorem endW_blk {w : World} {zb : Nat} {T : TypeId} {cs : Array Value} (h : Blk w zb T cs) (o0 o1 : Obj) (q : Nat) (u v : Value) (k : Nat) (x0 x1 x2 x3 x4 x5 : Value) : Blk (endW w zb o0 o1 q u v k x0 x1 x2 x3 x4 x5) zb T ((cs.setIfInBounds 3 u).setIfInBounds k v) :=
  (((((h.set 3 u).alloc o0).drewN q).set k v).far6 (by have := h.lt; omega) x0 x1 x2 x3 x4 x5).alloc o1
theorem endW_res {w : World} {zb : Nat} {T : TypeId} {y0 y1 y2 y3 y4 y5 : Value} (h : zb < w.heap.size) (o1 : Obj) (q : Nat) (u v : Value) (k : Nat) (x0 x1 x2 x3 x4 x5 : Value) : Blk (endW w zb (.cells #[y0, y1, y2, y3, y4, y5] T) o1 q u v k x0 x1 x2 x3 x4 x5) w.heap.size T #[x0, x1, x2, x3, x4, x5] :=
  ((((Blk.new' (w.setCell ⟨zb, 3, none⟩ u) T #[y0, y1, y2, y3, y4, y5] (by simp [World.setCell])).drewN q).far (p := ⟨zb, k, none⟩) (by show w.heap.size ≠ zb; omega) v).put6 x0 x1 x2 x3 x4 x5).alloc o1
theorem endW_grown (w : World) (zb : Nat) (o0 o1 : Obj) (q : Nat) (u v : Value) (k : Nat) (x0 x1 x2 x3 x4 x5 : Value) : w.grownBy (endW w zb o0 o1 q u v k x0 x1 x2 x3 x4 x5) (some zb) :=
  grown_alloc (grown_set6 (grown_setCell (p := ⟨zb, k, none⟩) (grown_drewN (grown_alloc (grown_setCell (p := ⟨zb, 3, none⟩) (World.grownBy.refl _ _) (.inl rfl) _) _) q) (.inl rfl) _) (.inr (Nat.le_refl _)) _ _ _ _ _ _) _
/-- The failing call. -/
def FailPost (w : World) (zb tb n c : Nat) (i ca : Int) (e : Ending) (w' : World) : Prop :=
  ∃ eb, e = .returned (.tuple #[zeroAgg, .iface 30 (.pointer (some ⟨eb, 0, none⟩))]) ∧ Blk w' zb 32 (rpCells tb n c i i (ca + 1) (.pointer (some ⟨eb, 0, none⟩))) ∧ w.grownBy w' (some zb)
set_option maxHeartbeats 1000000 in
set_option maxRecDepth 100000 in
theorem rp_fail (w : World) (zb tb n c : Nat) (i ca : Int) (ev : Value) (hz : Blk w zb 32 (rpCells tb n c i i ca ev)) (h0 : 0 ≤ ca) (h1 : ca ≤ 1099511627776) :
    Calls Try.prog 84 #[.pointer (some ⟨zb, 0, none⟩)] w (FailPost w zb tb n c i ca) := by
  have c0 := hz.cell 0
  have c1 := hz.cell 1
  have c2 := hz.cell 2
  have c3 := hz.cell 3
  have c4 := hz.cell 4
  simp [rpCells] at c0 c1 c2 c3 c4
  have f3 := hz.frozen 3
  have f4 := hz.frozen 4
  have hlt := hz.lt
  have HZ := Lib.hid hz
  clear hz
  go_enter Try.func84, Try.ntmps84
  go_wp2_with fail
  go_quiet (fail)
  go_wp2_with fail
  have hB := endW_blk HZ.out (.cells #[.int .i64 0, .string ⟨#[]⟩, .string ⟨#[]⟩, .int .i64 0, .int .i64 0, .int .i64 0] 46) (.cells #[.string ⟨#[114, 101, 112, 108, 97, 121]⟩, .string ⟨#[]⟩, .int .i64 i, .int .i64 0, .int .i64 0] 134) nq (.int .i64 (ca + 1)) (.pointer (some ⟨w.heap.size + 1, 0, none⟩)) 4 (.int .i64 0) (.string ⟨#[]⟩) (.string ⟨#[]⟩) (.int .i64 0) (.int .i64 0) (.int .i64 0)
  have hR := endW_res (y0 := .int .i64 0) (y1 := .string ⟨#[]⟩) (y2 := .string ⟨#[]⟩) (y3 := .int .i64 0) (y4 := .int .i64 0) (y5 := .int .i64 0) (T := 46) hlt (.cells #[.string ⟨#[114, 101, 112, 108, 97, 121]⟩, .string ⟨#[]⟩, .int .i64 i, .int .i64 0, .int .i64 0] 134) nq (.int .i64 (ca + 1)) (.pointer (some ⟨w.heap.size + 1, 0, none⟩)) 4 (.int .i64 0) (.string ⟨#[]⟩) (.string ⟨#[]⟩) (.int .i64 0) (.int .i64 0) (.int .i64 0)
  refine bodyPost_ret (v := .tuple #[zeroAgg, .iface 30 (.pointer (some ⟨w.heap.size + 1, 0, none⟩))]) ?_ rfl ⟨w.heap.size + 1, rfl, hB, endW_grown _ _ _ _ _ _ _ _ _ _ _ _ _ _⟩
  have q0 := hR.cell 0
  have q1 := hR.cell 1
  have q2 := hR.cell 2
  have q3 := hR.cell 3
  have q4 := hR.cell 4
  have q5 := hR.cell 5
  simp [endW, set6] at q0 q1 q2 q3 q4 q5
  simp [results, Try.results84, go_sem, q0, q1, q2, q3, q4, q5, zeroAgg]
  rfl
/-- The six cells of token i, as the walk spells their places. -/
theorem row_tok {w : World} {tb : Nat} {L : List Tok} {i : Nat} (hr : Row w tb 46 (toksCells L)) (hi : i < L.length) :
    w.cell? ⟨tb, i * 6, none⟩ = some (.int .i64 (L.getD i eofTok).ty) ∧ w.cell? ⟨tb, i * 6 + 1, none⟩ = some (.string (L.getD i eofTok).val) ∧ w.cell? ⟨tb, i * 6 + 1 + 1, none⟩ = some (.string (L.getD i eofTok).fn) ∧
    w.cell? ⟨tb, i * 6 + 1 + 1 + 1, none⟩ = some (.int .i64 (L.getD i eofTok).off) ∧ w.cell? ⟨tb, i * 6 + 1 + 1 + 1 + 1, none⟩ = some (.int .i64 (L.getD i eofTok).line) ∧ w.cell? ⟨tb, i * 6 + 1 + 1 + 1 + 1 + 1, none⟩ = some (.int .i64 (L.getD i eofTok).col) :=
  ⟨hr.cell ((toksCells_at L i 0 (by omega) hi).trans rfl), hr.cell ((toksCells_at L i 1 (by omega) hi).trans rfl), hr.cell ((toksCells_at L i 2 (by omega) hi).trans rfl),
   hr.cell ((toksCells_at L i 3 (by omega) hi).trans rfl), hr.cell ((toksCells_at L i 4 (by omega) hi).trans rfl), hr.cell ((toksCells_at L i 5 (by omega) hi).trans rfl)⟩
/-- A call that hands out token i. -/
def TokPost (w : World) (zb tb c : Nat) (L : List Tok) (i : Nat) (fa ca : Int) (ev : Value) (e : Ending) (w' : World) : Prop :=
  e = .returned (.tuple #[(L.getD i eofTok).agg, .nilIface]) ∧ Blk w' zb 32 (rpCells tb L.length c ((i + 1 : Nat) : Int) fa (ca + 1) ev) ∧ w.grownBy w' (some zb)
set_option maxHeartbeats 2000000 in
set_option maxRecDepth 100000 in
theorem rp_tok (w : World) (zb tb c : Nat) (L : List Tok) (i : Nat) (fa ca : Int) (ev : Value) (hz : Blk w zb 32 (rpCells tb L.length c i fa ca ev)) (hr : Row w tb 46 (toksCells L)) (hi : i < L.length) (hne : (i : Int) ≠ fa)
    (h0 : 0 ≤ ca) (h1 : ca ≤ 1099511627776) (hl : L.length ≤ 1099511627776) :
    Calls Try.prog 84 #[.pointer (some ⟨zb, 0, none⟩)] w (TokPost w zb tb c L i fa ca ev) := by
  have c0 := hz.cell 0
  have c1 := hz.cell 1
  have c2 := hz.cell 2
  have c3 := hz.cell 3
  have c4 := hz.cell 4
  simp [rpCells] at c0 c1 c2 c3 c4
  have f1 := hz.frozen 1
  have f3 := hz.frozen 3
  have hlt := hz.lt
  have htz : tb ≠ zb := hr.ne_blk hz (by decide)
  obtain ⟨t, ht⟩ : ∃ t, t = L.getD i eofTok := ⟨_, rfl⟩
  obtain ⟨d0, d1, d2, d3, d4, d5⟩ := row_tok hr hi
  rw [← ht] at d0 d1 d2 d3 d4 d5
  have HT := Lib.hid ht
  have HZ := Lib.hid hz
  have hrl := hr.lt
  clear hz ht hr
  have hnb : ((i : Int) == fa) = false := by simpa using hne
  have hi0 : (0 : Int) ≤ (i : Int) := by omega
  have hi1 : (i : Int) < (L.length : Int) := by omega
  have hge : decide (L.length ≤ i) = false := by simp; omega
  clear hne
  go_enter Try.func84, Try.ntmps84
  go_wp2_with fail
  go_quiet (fail)
  go_wp2_with fail
  go_quiet (fail)
  go_wp2_with fail
  go_region
  go_wp2_with fail
  have hR := fun q => endW_res (y0 := .int .i64 0) (y1 := .string ⟨#[]⟩) (y2 := .string ⟨#[]⟩) (y3 := .int .i64 0) (y4 := .int .i64 0) (y5 := .int .i64 0) (T := 46) hlt (.cells #[.int .i64 t.ty, .string t.val, .string t.fn, .int .i64 t.off, .int .i64 t.line, .int .i64 t.col] 46) q (.int .i64 (ca + 1)) (.int .i64 (i + 1)) 1 (.int .i64 t.ty) (.string t.val) (.string t.fn) (.int .i64 t.off) (.int .i64 t.line) (.int .i64 t.col)
  refine bodyPost_ret (v := .tuple #[(L.getD i eofTok).agg, .nilIface]) ?_ rfl ⟨rfl, endW_blk HZ.out (.cells #[.int .i64 0, .string ⟨#[]⟩, .string ⟨#[]⟩, .int .i64 0, .int .i64 0, .int .i64 0] 46) (.cells #[.int .i64 t.ty, .string t.val, .string t.fn, .int .i64 t.off, .int .i64 t.line, .int .i64 t.col] 46) _ (.int .i64 (ca + 1)) (.int .i64 (i + 1)) 1 (.int .i64 t.ty) (.string t.val) (.string t.fn) (.int .i64 t.off) (.int .i64 t.line) (.int .i64 t.col), endW_grown _ _ _ _ _ _ _ _ _ _ _ _ _ _⟩
  have q0 := fun q => (hR q).cell 0
  have q1 := fun q => (hR q).cell 1
  have q2 := fun q => (hR q).cell 2
  have q3 := fun q => (hR q).cell 3
  have q4 := fun q => (hR q).cell 4
  have q5 := fun q => (hR q).cell 5
  simp [endW, set6] at q0 q1 q2 q3 q4 q5
  rw [← HT.out]
  simp [results, Try.results84, go_sem, q0, q1, q2, q3, q4, q5, Tok.agg]
end Up
end Go.Proofs.Ytomfonilbenhbaa
