/-
  What one call of zzSliceLex's Next gives: a token of the list, or the error. Conditions: the lexer's memory is as 'Blk', 'Row' say.
-/
import Derived.Test.YtomfonilbenhbaaU8
namespace Go.Proofs.Ytomfonilbenhbaa
open Go.RowKit
set_option linter.unusedSimpArgs false
set_option linter.unusedVariables false
namespace Tp
open Up
/-- The cells of a slice lexer. -/
def slCells (tb n c : Nat) (i fa : Int) (ev : Value) (ca : Int) : Array Value := #[.slice (some ⟨tb, 0, none⟩) n c, .int .i64 i, .int .i64 fa, ev, .int .i64 ca]
def slZ (tb c : Nat) (L : List Tok) (fa : Int) (ev : Value) (j : Nat) : Array Value := slCells tb L.length c (j : Int) fa ev (j : Int)
def tz : Obj := .cells #[.int .i64 0, .string ⟨#[]⟩, .string ⟨#[]⟩, .int .i64 0, .int .i64 0, .int .i64 0] 46
theorem fail_res {w : World} {zb : Nat} (h : zb < w.heap.size) (q : Nat) (u x0 x1 x2 x3 x4 x5 : Value) : Blk (set6 (((w.setCell ⟨zb, 4, none⟩ u).alloc tz).drewN q) w.heap.size x0 x1 x2 x3 x4 x5) w.heap.size 46 #[x0, x1, x2, x3, x4, x5] :=
  ((Blk.new' (w.setCell ⟨zb, 4, none⟩ u) _ _ (by simp [World.setCell])).drewN q).put6 x0 x1 x2 x3 x4 x5
theorem fail_grown (w : World) (zb : Nat) (q : Nat) (u x0 x1 x2 x3 x4 x5 : Value) : w.grownBy (set6 (((w.setCell ⟨zb, 4, none⟩ u).alloc tz).drewN q) w.heap.size x0 x1 x2 x3 x4 x5) (some zb) :=
  grown_set6 (grown_drewN (grown_alloc (grown_setCell (p := ⟨zb, 4, none⟩) (World.grownBy.refl _ _) (.inl rfl) _) _) q) (.inr (Nat.le_refl _)) _ _ _ _ _ _
theorem tok_res {w : World} {zb : Nat} (h : zb < w.heap.size) (q : Nat) (u v x0 x1 x2 x3 x4 x5 : Value) : Blk (set6 ((((w.setCell ⟨zb, 4, none⟩ u).alloc tz).drewN q).setCell ⟨zb, 1, none⟩ v) w.heap.size x0 x1 x2 x3 x4 x5).drew w.heap.size 46 #[x0, x1, x2, x3, x4, x5] :=
  ((((Blk.new' (w.setCell ⟨zb, 4, none⟩ u) _ _ (by simp [World.setCell])).drewN q).far (p := ⟨zb, 1, none⟩) (by show w.heap.size ≠ zb; omega) v).put6 x0 x1 x2 x3 x4 x5).drew
theorem tok_grown (w : World) (zb : Nat) (q : Nat) (u v x0 x1 x2 x3 x4 x5 : Value) : w.grownBy (set6 ((((w.setCell ⟨zb, 4, none⟩ u).alloc tz).drewN q).setCell ⟨zb, 1, none⟩ v) w.heap.size x0 x1 x2 x3 x4 x5).drew (some zb) :=
  grown_drew (grown_set6 (grown_setCell (p := ⟨zb, 1, none⟩) (grown_drewN (grown_alloc (grown_setCell (p := ⟨zb, 4, none⟩) (World.grownBy.refl _ _) (.inl rfl) _) _) q) (.inl rfl) _) (.inr (Nat.le_refl _)) _ _ _ _ _ _)
set_option maxHeartbeats 1000000 in
set_option maxRecDepth 100000 in
theorem sl_fail (w : World) (zb tb n c : Nat) (i ca : Int) (ev : Value) (hz : Blk w zb 70 (slCells tb n c i i ev ca)) (h0 : 0 ≤ ca) (h1 : ca ≤ 1099511627776) :
    Calls Try.prog 89 #[.pointer (some ⟨zb, 0, none⟩)] w fun e w' => e = .returned (.tuple #[zeroAgg, ev]) ∧ Blk w' zb 70 (slCells tb n c i i ev (ca + 1)) ∧ w.grownBy w' (some zb) := by
  have c0 := hz.cell 0
  have c1 := hz.cell 1
  have c2 := hz.cell 2
  have c3 := hz.cell 3
  have c4 := hz.cell 4
  simp [slCells] at c0 c1 c2 c3 c4
  have f4 := hz.frozen 4
  have hlt := hz.lt
  have HZ := Lib.hid hz
  clear hz
  go_enter Try.func89, Try.ntmps89
  go_wp2_with fail
  go_quiet (fail)
  go_wp2_with fail
  go_region
  go_wp2_with fail
  have hR := fun q => fail_res hlt q (.int .i64 (ca + 1)) (.int .i64 0) (.string ⟨#[]⟩) (.string ⟨#[]⟩) (.int .i64 0) (.int .i64 0) (.int .i64 0)
  refine bodyPost_ret (v := .tuple #[zeroAgg, ev]) ?_ rfl ⟨rfl, ((((HZ.out.set 4 (.int .i64 (ca + 1))).alloc tz).drewN _).far6 (by omega) (.int .i64 0) (.string ⟨#[]⟩) (.string ⟨#[]⟩) (.int .i64 0) (.int .i64 0) (.int .i64 0)), fail_grown w zb _ (.int .i64 (ca + 1)) (.int .i64 0) (.string ⟨#[]⟩) (.string ⟨#[]⟩) (.int .i64 0) (.int .i64 0) (.int .i64 0)⟩
  have q0 := fun q => (hR q).cell 0
  have q1 := fun q => (hR q).cell 1
  have q2 := fun q => (hR q).cell 2
  have q3 := fun q => (hR q).cell 3
  have q4 := fun q => (hR q).cell 4
  have q5 := fun q => (hR q).cell 5
  simp [set6, tz] at q0 q1 q2 q3 q4 q5
  simp [results, Try.results89, go_sem, q0, q1, q2, q3, q4, q5, zeroAgg]
  rfl
/-- A call that hands out token i. -/
def SlPost (w : World) (zb tb c : Nat) (L : List Tok) (i : Nat) (fa ca : Int) (ev : Value) (e : Ending) (w' : World) : Prop :=
  e = .returned (.tuple #[(L.getD i eofTok).agg, .nilIface]) ∧ Blk w' zb 70 (slCells tb L.length c ((i + 1 : Nat) : Int) fa ev (ca + 1)) ∧ w.grownBy w' (some zb)
set_option maxHeartbeats 2000000 in
set_option maxRecDepth 100000 in
theorem sl_tok (w : World) (zb tb c : Nat) (L : List Tok) (i : Nat) (fa ca : Int) (ev : Value) (hz : Blk w zb 70 (slCells tb L.length c i fa ev ca)) (hr : Row w tb 46 (toksCells L)) (hi : i < L.length) (hne : (i : Int) ≠ fa)
    (h0 : 0 ≤ ca) (h1 : ca ≤ 1099511627776) (hl : L.length ≤ 1099511627776) :
    Calls Try.prog 89 #[.pointer (some ⟨zb, 0, none⟩)] w (SlPost w zb tb c L i fa ca ev) := by
  have c0 := hz.cell 0
  have c1 := hz.cell 1
  have c2 := hz.cell 2
  have c3 := hz.cell 3
  have c4 := hz.cell 4
  simp [slCells] at c0 c1 c2 c3 c4
  have f1 := hz.frozen 1
  have f4 := hz.frozen 4
  have hlt := hz.lt
  have htz : tb ≠ zb := hr.ne_blk hz (by decide)
  obtain ⟨t, ht⟩ : ∃ t, t = L.getD i eofTok := ⟨_, rfl⟩
  obtain ⟨d0, d1, d2, d3, d4, d5⟩ := row_tok hr hi
  rw [← ht] at d0 d1 d2 d3 d4 d5
  have HT := Lib.hid ht
  have HZ := Lib.hid hz
  have hrl := hr.lt
  clear hz ht hr
  have hnb : ((i : Int) == fa) = false := by simpa using hne
  have hi0 : (0 : Int) ≤ (i : Int) := by omega
  have hi1 : (i : Int) < (L.length : Int) := by omega
  have hge : decide (L.length ≤ i) = false := by simp; omega
  have hsb : IntKind.i64.wrap ((i : Int) + 1 - 1) = (i : Int) := by rw [IntWalk.i64_in _ (by omega)]; omega
  clear hne
  go_enter Try.func89, Try.ntmps89
  go_wp2_with fail
  go_quiet (fail)
  go_wp2_with fail
  go_quiet (fail)
  go_wp2_with fail
  go_region
  go_wp2_with fail
  have hR := fun q => tok_res hlt q (.int .i64 (ca + 1)) (.int .i64 (i + 1)) (.int .i64 t.ty) (.string t.val) (.string t.fn) (.int .i64 t.off) (.int .i64 t.line) (.int .i64 t.col)
  refine bodyPost_ret (v := .tuple #[(L.getD i eofTok).agg, .nilIface]) ?_ rfl ⟨rfl, (((((HZ.out.set 4 (.int .i64 (ca + 1))).alloc tz).drewN _).set 1 (.int .i64 (i + 1))).far6 (by omega) (.int .i64 t.ty) (.string t.val) (.string t.fn) (.int .i64 t.off) (.int .i64 t.line) (.int .i64 t.col)).drew, tok_grown w zb _ (.int .i64 (ca + 1)) (.int .i64 (i + 1)) (.int .i64 t.ty) (.string t.val) (.string t.fn) (.int .i64 t.off) (.int .i64 t.line) (.int .i64 t.col)⟩
  have q0 := fun q => (hR q).cell 0
  have q1 := fun q => (hR q).cell 1
  have q2 := fun q => (hR q).cell 2
  have q3 := fun q => (hR q).cell 3
  have q4 := fun q => (hR q).cell 4
  have q5 := fun q => (hR q).cell 5
  simp [set6, tz] at q0 q1 q2 q3 q4 q5
  rw [← HT.out]
  simp [results, Try.results89, go_sem, q0, q1, q2, q3, q4, q5, Tok.agg]
theorem sl_src (zb tb c : Nat) (L : List Tok) (fa : Int) (ev : Value) (m : Nat) (hm : m ≤ L.length) (hL : L.length ≤ 1048576) (hfa : ∀ j : Nat, j < m → (j : Int) ≠ fa) : Src 68 89 zb 70 (slZ tb c L fa ev) tb L m where
  meth := fun _ => by kernel_rfl
  enter := fun _ _ => by kernel_rfl
  ne := by decide
  next := fun j W hj hz hr => (sl_tok W zb tb c L j fa j ev hz hr (by omega) (hfa j hj) (by omega) (by omega) (by omega)).mono fun e w' ⟨h1, h2, h3⟩ => ⟨h1, by unfold slZ; rwa [show ((j + 1 : Nat) : Int) = (j : Int) + 1 by omega] at h2 ⊢, h3⟩
theorem sl_fails (zb tb c : Nat) (L : List Tok) (TE : TypeId) (eb m : Nat) (hm : m ≤ 1048576) : Fails 89 zb 70 (slZ tb c L m (.iface TE (.pointer (some ⟨eb, 0, none⟩)))) tb L m TE (fun v => slCells tb L.length c (m : Int) (m : Int) (.iface TE (.pointer (some ⟨eb, 0, none⟩))) ((m : Int) + 1)) (fun x => x = eb) := fun W hz hr =>
  (sl_fail W zb tb L.length c m m _ hz (by omega) (by omega)).mono fun e w' ⟨h1, h2, h3⟩ => ⟨eb, rfl, h1, h2, h3⟩
end Tp
end Go.Proofs.Ytomfonilbenhbaa
