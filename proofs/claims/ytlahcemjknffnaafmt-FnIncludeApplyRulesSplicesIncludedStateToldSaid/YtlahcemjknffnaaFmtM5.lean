/-
  include.applyRules on a map of slices of rules. Conditions: sizes as stated; F answers the tape.
-/
import Derived.Test.YtlahcemjknffnaaFmtM4
import Derived.StillTailTactics
namespace Go.Proofs.YtlahcemjknffnaaFmt
open Go.RowKit Go.Extern.Stop Go.Stop Go.Extern
set_option linter.unusedSimpArgs false
set_option linter.unusedVariables false
namespace fnInc
open fnValidatePush
theorem heap_new' (W : World) (o : Obj) (b : Nat) (h : b = W.heap.size) : (W.alloc o).heap[b]? = some o := by subst h; exact heap_alloc_new W o
/-- copy of n elements of several cells onto a row that the call owns. -/
theorem run_copy_own {P : Program} (w : World) (base t ty e sz g gi n ci : Nat) (xs cs : List Value) (hu : P.underlying t = some (.slice e)) (hsz : (P.info? e).map (·.size) = some sz)
    (hown : w.ownsRow base e sz (.slice (some ⟨g, 0, none⟩) n n) n xs) (hl : cs.length = n * sz) (hsrc : ∀ j v, cs[j]? = some v → w.cell? ((⟨gi, 0, none⟩ : Addr).add j) = some v) (h1 : ∀ v ∈ cs, v.oneCell' = true) :
    ∃ w', (Builtin.copy_ #[t, t] ty #[.slice (some ⟨g, 0, none⟩) n n, .slice (some ⟨gi, 0, none⟩) n ci]).run P w = .ok (goInt n) w' ∧ w'.ownsRow base e sz (.slice (some ⟨g, 0, none⟩) n n) n cs ∧ w.grownBy w' (some g) := by
  obtain ⟨hxl, hv⟩ := hown
  rcases hv with ⟨hv, -⟩ | ⟨g', cap, cur, hv, hbg, hg, h2, h3, h4, h5⟩
  · cases hv
  injection hv with e1 e2 e3
  injection e1 with e1
  injection e1 with e1
  subst e1
  subst e3
  have hld := run_loadCells_list (P := P) w ⟨gi, 0, none⟩ cs hsrc
  have hst := run_storeCells_at P g 0 e cs 0 cur w hg (by simp; omega) h1
  cases hq : P.info? e with
  | none => simp [hq] at hsz
  | some i =>
    have hi : i.size = sz := by simpa [hq] using hsz
    have hmin : Nat.min n n = n := Nat.min_self n
    refine ⟨w.setRow g (cur.toList.take 0 ++ cs ++ cur.toList.drop (0 + cs.length)).toArray, ?_, ⟨hl, .inr ⟨g, n, _, rfl, hbg, setRow_heap w g cur _ e _ hg, Nat.le_refl _, h3, ?_, ?_⟩⟩, ⟨rfl, rfl, rfl, by simp, fun k _ hk => setRow_other w g k _ (fun e => hk (by rw [e]))⟩⟩
    · rw [hl] at hld
      simp [Builtin.copy_, run_underlying hu, Builtin.lenOf, Builtin.firstCells, sizeOf, typeInfo, hq, hi, hmin, hld]
      simp at hst
      rw [hst]
      rfl
    · simp; omega
    · rw [← hl]; simp
theorem at_copy {P : Program} (w : World) {ops : Array Oper} {rest : List Oper} {o : Oper} {a : Act} {Q : Exit → Act → World → Prop} (hg : o.guard = none) (d s : Operand) (t : TypeId) (hop : o.op = Op.call { callee := Callee.builtin Builtin.copy, args := #[d, s], argTypes := #[t, t] })
    (v u : Value) (hd : a.eval d = v) (hs : a.eval s = u) {v' : Value} {w' : World} (hr : ∀ ty, (Builtin.copy_ #[t, t] ty #[v, u]).run P w = .ok v' w') (hK : wpList P ops Q rest (a.put o.dst v') w') : wpList P ops Q (o :: rest) a w := by
  refine wpList_plain hg fun K' hK' => ?_
  unfold Oper.wp
  simp [execOp, hop, resolve, invoke, builtin, hd, hs, hr o.type, Result.andThen]
  exact hK' _ _ hK
set_option maxHeartbeats 1000000 in
set_option maxRecDepth 100000 in
theorem apply_miss (F : Interp) (s st : ByteArray) (r : Int) (b k : Nat) (N : ByteArray → Option (List ByteArray)) (w : World) (hF : F.answers w.tape) (hm : Mm w b k N) (hs : s.size ≤ maxLen) (hN : N s = none) :
    Calls Tryf.prog 14 #[.agg #[.string s], .string st, .int .i64 r, .map (some b)] w fun e w' => ∃ p, e = .returned (.iface 58 (.pointer (some ⟨p, 0, none⟩))) ∧ Below w.heap.size w w' := by
  have hb2 : Below w.heap.size w (w.alloc (.cells #[.string s] 50)) := (Below.refl _ _).alloc (Nat.le_refl _) _
  have hlk := (hm.later hb2).miss hs hN
  have hE := Lib.hid (errorf_any F s)
  go_enter Tryf.func14, Tryf.ntmps14
  go_wp2_with fail
  refine (hE.out _ _ (by exact hF) (by exact (cell_new' _ _ _ _ 0 (by simp)).trans rfl) (by exact heap_new' _ _ _ (by simp))).mono ?_
  rintro e w' ⟨p, rfl, hb⟩
  go_wp2_with fail
  go_ret
  exact ⟨p, rfl, below_next hb (hb2.alloc (by simp) _)⟩
end fnInc
end Go.Proofs.YtlahcemjknffnaaFmt
