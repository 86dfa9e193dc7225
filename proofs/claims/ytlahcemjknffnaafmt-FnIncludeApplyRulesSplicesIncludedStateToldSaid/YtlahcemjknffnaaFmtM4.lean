/-
  A map from names to slices of rules: writes. Conditions: sizes as stated.
-/
import Derived.Test.YtlahcemjknffnaaFmtM3
namespace Go.Proofs.YtlahcemjknffnaaFmt
open Go.RowKit
set_option linter.unusedSimpArgs false
set_option linter.unusedVariables false
namespace fnInc
open fnValidatePush
set_option maxRecDepth 100000 in
theorem store_core {w2 : World} {b k : Nat} {N : ByteArray → Option (List ByteArray)} {D : DataW Unit} {V : ByteArray → Option (Nat × Nat × Nat)} {s : ByteArray} {g' c' : Nat} {z' : List ByteArray} (hk : k < maxLen) (hs : s.size ≤ maxLen)
    (hm : w2.ownsMap Tryf.prog 9 RS b k D) (hsz : Maps.size D = k) (hD : ∀ s, Maps.has D (kl s) = (V s).isSome ∧ D.atKey (kl s) .nil = dv (V s)) (hN0 : ∀ s, V s = none → N s = none)
    (hrow : ∀ x, x ≠ s → ∀ g n c, V x = some (g, n, c) → g ≠ g' ∧ ∃ z, N x = some z ∧ z.length = n ∧ w2.ownsRow b 45 5 (.slice (some ⟨g, 0, none⟩) n c) n (rc z))
    (hinj : ∀ s s' g n c n' c', V s = some (g, n, c) → V s' = some (g, n', c') → s = s')
    (hnew : w2.ownsRow b 45 5 (.slice (some ⟨g', 0, none⟩) z'.length c') z'.length (rc z')) :
    ∃ w3, (Instr.mapUpdate 37 (.map (some b)) (.string s) (.slice (some ⟨g', 0, none⟩) z'.length c')).run Tryf.prog w2 = .ok () w3 ∧ Mm w3 b (if (V s).isSome then k else k + 1) (upd N s z') ∧ Below b w2 w3 := by
  obtain ⟨w3, hrun, hm3, ht⟩ := hm.store (val := .slice (some ⟨g', 0, none⟩) z'.length c') (d := dv (some (g', z'.length, c'))) (ps := []) strK Tryf.underlying37 hk (keyS s hs) rfl
  have hb3 : Below b w2 w3 := turned_below ht (Nat.le_refl _) (Below.refl _ _) (Nat.le_of_lt hm.lt)
  have hkeep : ∀ {v : Value} {n : Nat} {xs : List Value}, w2.ownsRow b 45 5 v n xs → w3.ownsRow b 45 5 v n xs := by
    intro v n xs h
    have hne := own_map_ne h hm
    refine own_keep h (fun g hg => ?_)
    exact ht.grown.block g (h.lt g hg).2 (fun e => hne (by rw [hg, e]))
  have htidy := hm.tidy strK
  have hsize : Maps.size (D.put (kl s) (dv (some (g', z'.length, c')))) = if (V s).isSome then k else k + 1 := by
    rw [Maps.size_put htidy, (hD s).1, hsz]
  have hm4 := tight hm3
  rw [hsize] at hm4
  refine ⟨w3, hrun, ⟨_, fun x => if eqB x s then some (g', z'.length, c') else V x, hm4, hsize, ?_, ?_, ?_, ?_⟩, hb3⟩
  · intro x
    by_cases hx : x = s
    · subst hx
      rw [Maps.has_put_same hm.isMap (show WideAt.IsKeyLit (kl x) from trivial), Maps.atKey_put_same hm.isMap (show WideAt.IsKeyLit (kl x) from trivial)]
      simp only [eqB_self, if_true]
      exact ⟨rfl, trivial⟩
    · have hkn : kl x ≠ kl s := fun e => hx (kl_inj e)
      rw [Maps.has_put_other hkn, Maps.atKey_put_other hkn]
      simp only [eqB_ne hx, Bool.false_eq_true, if_false]
      exact hD x
  · intro x hx
    by_cases hxs : x = s
    · subst hxs; simp only [eqB_self, if_true] at hx; cases hx
    · simp only [eqB_ne hxs, Bool.false_eq_true, if_false] at hx
      unfold upd
      simp only [eqB_ne hxs, Bool.false_eq_true, if_false]
      exact hN0 x hx
  · intro x g n c hx
    by_cases hxs : x = s
    · subst hxs
      simp only [eqB_self, if_true] at hx
      injection hx with hx
      injection hx with e1 hx
      injection hx with e2 e3
      subst e1; subst e2; subst e3
      exact ⟨z', by unfold upd; simp only [eqB_self, if_true], rfl, hkeep hnew⟩
    · simp only [eqB_ne hxs, Bool.false_eq_true, if_false] at hx
      obtain ⟨-, z, q1, q2, q3⟩ := hrow x hxs g n c hx
      exact ⟨z, by unfold upd; simp only [eqB_ne hxs, Bool.false_eq_true, if_false]; exact q1, q2, hkeep q3⟩
  · intro x y g n c n' c2 hx hy
    by_cases hxs : x = s
    · by_cases hys : y = s
      · rw [hxs, hys]
      · simp only [hxs, eqB_self, if_true] at hx
        simp only [eqB_ne hys, Bool.false_eq_true, if_false] at hy
        injection hx with hx
        injection hx with e1 hx
        exact absurd e1.symm (hrow y hys g n' c2 hy).1
    · by_cases hys : y = s
      · simp only [hys, eqB_self, if_true] at hy
        simp only [eqB_ne hxs, Bool.false_eq_true, if_false] at hx
        injection hy with hy
        injection hy with e1 hy
        exact absurd e1.symm (hrow x hxs g n c hx).1
      · simp only [eqB_ne hys, Bool.false_eq_true, if_false] at hy
        simp only [eqB_ne hxs, Bool.false_eq_true, if_false] at hx
        exact hinj x y g n c n' c2 hx hy
set_option maxRecDepth 100000 in
/-- 'm[s] = v', s no key yet, v in memory that was made behind the map's last write. -/
theorem Mm.put_new {w0 w2 : World} {b k : Nat} {N : ByteArray → Option (List ByteArray)} {s : ByteArray} {g' c' : Nat} {z' : List ByteArray} (h : Mm w0 b k N) (hb : Below w0.heap.size w0 w2) (hk : k < maxLen) (hs : s.size ≤ maxLen) (hN : N s = none) (hg : w0.heap.size ≤ g')
    (hnew : w2.ownsRow b 45 5 (.slice (some ⟨g', 0, none⟩) z'.length c') z'.length (rc z')) :
    ∃ w3, (Instr.mapUpdate 37 (.map (some b)) (.string s) (.slice (some ⟨g', 0, none⟩) z'.length c')).run Tryf.prog w2 = .ok () w3 ∧ Mm w3 b (k + 1) (upd N s z') ∧ Below b w2 w3 := by
  obtain ⟨D, V, h1, h2, h3, h4, h5, h6⟩ := h
  have hV : V s = none := by
    cases hV : V s with
    | none => rfl
    | some x =>
      obtain ⟨g, n, c⟩ := x
      obtain ⟨z, q, -⟩ := h5 s g n c hV
      rw [hN] at q; cases q
  have := store_core (g' := g') (c' := c') (z' := z') hk hs (h1.kept (grown_of_below hb none) (by simp)) h2 h3 h4 (fun x _ g n c hx => by
    obtain ⟨z, q1, q2, q3⟩ := h5 x g n c hx
    refine ⟨fun e => ?_, z, q1, q2, own_later q3 hb⟩
    have := (q3.lt g rfl).2
    omega) h6 hnew
  rw [hV] at this
  exact this
set_option maxRecDepth 100000 in
/-- 'm[s] = append(m[s][:i], ..)': the row's block may be written, or the new row lies in new memory. -/
theorem Mm.turn {w : World} {b k : Nat} {N : ByteArray → Option (List ByteArray)} {s : ByteArray} {z : List ByteArray} (h : Mm w b k N) (hk : k < maxLen) (hs : s.size ≤ maxLen) (hN : N s = some z) :
    ∃ g c, Hid (∀ w1, Below w.heap.size w w1 → (Instr.lookup 37 (.map (some b)) (.string s) false).run Tryf.prog w1 = .ok (.slice (some ⟨g, 0, none⟩) z.length c) w1) ∧
      w.ownsRow b 45 5 (.slice (some ⟨g, 0, none⟩) z.length c) z.length (rc z) ∧
      Hid (∀ w1 w2 g' c' z', Below w.heap.size w w1 → w1.grownBy w2 (some g) → w2.ownsRow b 45 5 (.slice (some ⟨g', 0, none⟩) z'.length c') z'.length (rc z') → (g' = g ∨ w.heap.size ≤ g') →
        ∃ w3, (Instr.mapUpdate 37 (.map (some b)) (.string s) (.slice (some ⟨g', 0, none⟩) z'.length c')).run Tryf.prog w2 = .ok () w3 ∧ Mm w3 b k (upd N s z') ∧ Below b w2 w3) := by
  obtain ⟨D, V, h1, h2, h3, h4, h5, h6⟩ := h
  cases hV : V s with
  | none => rw [h4 s hV] at hN; cases hN
  | some x =>
    obtain ⟨g, n, c⟩ := x
    obtain ⟨z2, q1, q2, q3⟩ := h5 s g n c hV
    rw [hN] at q1
    injection q1 with q1
    subst q1
    subst q2
    refine ⟨g, c, Lib.hid (fun w1 hb => ?_), q3, Lib.hid (fun w1 w2 g' c' z' hb hg hnew hg' => ?_)⟩
    · have h1' := h1.kept (grown_of_below hb none) (by simp)
      obtain ⟨v, ps, hrun, hv⟩ := h1'.lookup strK Tryf.underlying37 (zeroS w1) (RS_sv none) (keyS s hs)
      obtain ⟨o, rfl, ho⟩ := RS_inv hv
      injection ho with ho
      have : o = V s := dv_inj (ho.symm.trans (h3 s).2)
      rw [this, hV] at hrun
      unfold sv at hrun
      exact hrun
    · have hbg : some b ≠ some g := own_map_ne q3 h1
      have h1' := (h1.kept (grown_of_below hb none) (by simp)).kept hg hbg
      have := store_core (g' := g') (c' := c') (z' := z') hk hs h1' h2 h3 h4 (fun x hx gx n c2 hVx => by
        obtain ⟨zx, p1, p2, p3⟩ := h5 x gx n c2 hVx
        have hne : gx ≠ g := fun e => hx (h6 x s g n c2 z.length c (e ▸ hVx) hV)
        have hlt := (p3.lt gx rfl).2
        refine ⟨fun e => ?_, zx, p1, p2, ?_⟩
        · rcases hg' with rfl | hg'
          · exact hne e
          · omega
        · have p4 := own_later p3 hb
          refine own_keep p4 (fun g2 hg2 => ?_)
          have e2 : gx = g2 := by injection hg2
          subst e2
          exact hg.block gx (Nat.lt_of_lt_of_le hlt hb.size) (fun e => hne (by injection e))) h6 hnew
      rw [hV] at this
      exact this
end fnInc
end Go.Proofs.YtlahcemjknffnaaFmt
