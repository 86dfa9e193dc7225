/-
  A map from names to slices of rules: what it reads as; lookups and updates. Conditions: sizes as stated.
-/
import Derived.Test.YtlahcemjknffnaaFmtM2
import Derived.Test.YtlahcemjknffnaaFmtOwn
import Derived.Maps.AppendAt
namespace Go.Proofs.YtlahcemjknffnaaFmt
open Go.RowKit
set_option linter.unusedSimpArgs false
set_option linter.unusedVariables false
namespace fnInc
open fnValidatePush
/-! ### slices as a map's elements -/
def sv : Option (Nat × Nat × Nat) → Value
  | none => .slice none 0 0
  | some (g, n, c) => .slice (some ⟨g, 0, none⟩) n c
def dv : Option (Nat × Nat × Nat) → DataW Unit
  | none => .nil
  | some (g, n, c) => .agg [.lit (.int .i64 g), .lit (.int .i64 n), .lit (.int .i64 c)]
theorem dv_inj {o o' : Option (Nat × Nat × Nat)} (h : dv o = dv o') : o = o' := by
  cases o with
  | none =>
    cases o' with
    | none => rfl
    | some x => obtain ⟨g, n, c⟩ := x; simp [dv] at h
  | some x =>
    obtain ⟨g, n, c⟩ := x
    cases o' with
    | none => simp [dv] at h
    | some y =>
      obtain ⟨g', n', c'⟩ := y
      simp [dv] at h
      obtain ⟨h1, h2, h3⟩ := h
      have e1 : g = g' := by omega
      have e2 : n = n' := by omega
      have e3 : c = c' := by omega
      subst e1; subst e2; subst e3; rfl
def RS : Value → Option (DataW Unit × List MemPlace)
  | .slice none 0 0 => some (.nil, [])
  | .slice (some ⟨g, 0, none⟩) n c => some (dv (some (g, n, c)), [])
  | _ => none
theorem RS_sv (o : Option (Nat × Nat × Nat)) : RS (sv o) = some (dv o, []) := by
  cases o with
  | none => rfl
  | some x => obtain ⟨g, n, c⟩ := x; rfl
theorem RS_inv {v : Value} {z : DataW Unit × List MemPlace} (h : RS v = some z) : ∃ o, v = sv o ∧ z = (dv o, []) := by
  unfold RS at h
  split at h
  · injection h with h; exact ⟨none, rfl, h.symm⟩
  · rename_i g n c
    injection h with h; exact ⟨some (g, n, c), rfl, h.symm⟩
  · cases h
/-! ### a rule's cells -/
def one (s : ByteArray) : List Value := [.string s, .string ByteArray.empty, .nilIface, .bool false, .pointer none]
def rc (z : List ByteArray) : List Value := z.flatMap one
theorem rc_nil : rc [] = [] := rfl
theorem rc_cons (x : ByteArray) (z : List ByteArray) : rc (x :: z) = one x ++ rc z := rfl
theorem rc_length (z : List ByteArray) : (rc z).length = z.length * 5 := by
  induction z with
  | nil => rfl
  | cons x r ih => rw [rc_cons, List.length_append, ih]; simp [one]; omega
theorem rc_append (x y : List ByteArray) : rc (x ++ y) = rc x ++ rc y := by simp [rc]
theorem rc_take (z : List ByteArray) (j : Nat) (h : j ≤ z.length) : (rc z).take (j * 5) = rc (z.take j) := by
  have e : rc z = rc (z.take j) ++ rc (z.drop j) := by rw [← rc_append, List.take_append_drop]
  rw [e, List.take_append_of_le_length (by rw [rc_length]; simp; omega), List.take_of_length_le (by rw [rc_length]; simp; omega)]
theorem rc_drop (z : List ByteArray) (j : Nat) (h : j ≤ z.length) : (rc z).drop (j * 5) = rc (z.drop j) := by
  have e : rc z = rc (z.take j) ++ rc (z.drop j) := by rw [← rc_append, List.take_append_drop]
  have hl : (rc (z.take j)).length = j * 5 := by rw [rc_length]; simp; omega
  rw [e, ← hl, List.drop_left]
theorem rc_at (z : List ByteArray) (j : Nat) (h : j < z.length) : (rc z)[j * 5]? = some (.string (z.getD j ByteArray.empty)) := by
  have h1 := rc_drop z j (Nat.le_of_lt h)
  have h2 : (rc z)[j * 5]? = ((rc z).drop (j * 5))[0]? := by rw [List.getElem?_drop]; simp
  rw [h2, h1]
  obtain ⟨x, hx⟩ : ∃ x, x = z.drop j := ⟨_, rfl⟩
  rw [List.drop_eq_getElem_cons h, rc_cons, List.getD_eq_getElem?_getD, List.getElem?_eq_getElem h]
  rfl
theorem rc_cells (z : List ByteArray) : ∀ u ∈ rc z, u.oneCell' = true := by
  intro u hu
  unfold rc at hu
  rw [List.mem_flatMap] at hu
  obtain ⟨s, _, hs⟩ := hu
  unfold one at hs
  simp at hs
  rcases hs with rfl | rfl | rfl | rfl | rfl <;> rfl
/-! ### the map -/
abbrev tC := 45
abbrev tM := 37
theorem ruleInfo : (Tryf.prog.info? 45).map (fun i => (i.zero, i.size, i.bytes)) = some (some (Value.agg #[.string ByteArray.empty, .string ByteArray.empty, .nilIface, .bool false, .pointer none]), 5, 64) := by kernel_rfl
theorem zeroS (w : World) : (zeroValue 38).run Tryf.prog w = .ok (sv none) w := by kernel_rfl
noncomputable def upd (N : ByteArray → Option (List ByteArray)) (s : ByteArray) (z : List ByteArray) : ByteArray → Option (List ByteArray) := fun x => if eqB x s then some z else N x
/-- The slices that the map holds, and what they read as. -/
def Held (w : World) (b : Nat) (V : ByteArray → Option (Nat × Nat × Nat)) (N : ByteArray → Option (List ByteArray)) : Prop :=
  (∀ s, V s = none → N s = none) ∧
  (∀ s g n c, V s = some (g, n, c) → ∃ z, N s = some z ∧ z.length = n ∧ w.ownsRow b 45 5 (.slice (some ⟨g, 0, none⟩) n c) n (rc z)) ∧
  (∀ s s' g n c n' c', V s = some (g, n, c) → V s' = some (g, n', c') → s = s')
def Mm (w : World) (b k : Nat) (N : ByteArray → Option (List ByteArray)) : Prop :=
  ∃ (D : DataW Unit) (V : ByteArray → Option (Nat × Nat × Nat)), w.ownsMap Tryf.prog 9 RS b k D ∧ Maps.size D = k ∧ (∀ s, Maps.has D (kl s) = (V s).isSome ∧ D.atKey (kl s) .nil = dv (V s)) ∧ Held w b V N
theorem tight {w : World} {b n : Nat} {D : DataW Unit} (h : w.ownsMap Tryf.prog 9 RS b n D) : w.ownsMap Tryf.prog 9 RS b (Maps.size D) D := by
  obtain ⟨es, clock, hb, F, hs, rfl⟩ := h
  refine ⟨es, clock, hb, F, ?_, rfl⟩
  have e1 : Maps.size (DataW.map ((es.toList.map (Go.WideElems.rg Tryf.prog 9 RS)).foldr DataW.insert [])) = es.size := by simp [Maps.size, length_sorted]
  rw [e1]
  exact Nat.le_refl _
theorem Mm.made (w : World) : Mm (w.alloc (.map #[] 0)) w.heap.size 0 (fun _ => none) :=
  ⟨.map [], fun _ => none, World.ownsMap_made _ _ _ _, rfl, fun s => ⟨rfl, rfl⟩, fun _ _ => rfl, fun s g n c h => (by cases h), fun s s' g n c n' c' h => (by cases h)⟩
theorem Mm.lt {w : World} {b k : Nat} {N : ByteArray → Option (List ByteArray)} (h : Mm w b k N) : b < w.heap.size := by
  obtain ⟨D, V, h1, -⟩ := h; exact h1.lt
theorem Held.later {w w' : World} {b : Nat} {V : ByteArray → Option (Nat × Nat × Nat)} {N : ByteArray → Option (List ByteArray)} (h : Held w b V N) (hb : Below w.heap.size w w') : Held w' b V N := by
  obtain ⟨h1, h2, h3⟩ := h
  refine ⟨h1, fun s g n c hV => ?_, h3⟩
  obtain ⟨z, e1, e2, e3⟩ := h2 s g n c hV
  exact ⟨z, e1, e2, own_later e3 hb⟩
theorem Mm.later {w w' : World} {b k : Nat} {N : ByteArray → Option (List ByteArray)} (h : Mm w b k N) (hb : Below w.heap.size w w') : Mm w' b k N := by
  obtain ⟨D, V, h1, h2, h3, h4⟩ := h
  exact ⟨D, V, h1.kept (grown_of_below hb none) (by simp), h2, h3, h4.later hb⟩
set_option maxRecDepth 100000 in
/-- 'm[s]', 's' among the keys. -/
theorem Mm.look {w : World} {b k : Nat} {N : ByteArray → Option (List ByteArray)} (h : Mm w b k N) {s : ByteArray} {z : List ByteArray} (hs : s.size ≤ maxLen) (hN : N s = some z) (ok : Bool) :
    ∃ g c, (Instr.lookup 37 (.map (some b)) (.string s) ok).run Tryf.prog w = .ok (if ok then .tuple #[.slice (some ⟨g, 0, none⟩) z.length c, .bool true] else .slice (some ⟨g, 0, none⟩) z.length c) w ∧
      w.ownsRow b 45 5 (.slice (some ⟨g, 0, none⟩) z.length c) z.length (rc z) := by
  obtain ⟨D, V, h1, h2, h3, h4, h5, h6⟩ := h
  obtain ⟨e1, e2⟩ := h3 s
  cases hV : V s with
  | none => rw [h4 s hV] at hN; cases hN
  | some x =>
    obtain ⟨g, n, c⟩ := x
    obtain ⟨z', q1, q2, q3⟩ := h5 s g n c hV
    rw [hN] at q1
    injection q1 with q1
    subst q1
    subst q2
    refine ⟨g, c, ?_, q3⟩
    cases ok with
    | false =>
      obtain ⟨v, ps, hrun, hv⟩ := h1.lookup strK Tryf.underlying37 (zeroS w) (RS_sv none) (keyS s hs)
      obtain ⟨o, rfl, ho⟩ := RS_inv hv
      injection ho with ho
      have : o = V s := dv_inj (ho.symm.trans e2)
      rw [this, hV] at hrun
      rw [if_neg (by decide)]
      unfold sv at hrun
      exact hrun
    | true =>
      obtain ⟨v, ps, hrun, hv⟩ := h1.look_ok strK Tryf.underlying37 (zeroS w) (RS_sv none) (keyS s hs)
      obtain ⟨o, rfl, ho⟩ := RS_inv hv
      injection ho with ho
      have : o = V s := dv_inj (ho.symm.trans e2)
      rw [this, e1, hV] at hrun
      rw [if_pos rfl]
      unfold sv at hrun
      exact hrun
set_option maxRecDepth 100000 in
/-- 'm[s]', 's' no key. -/
theorem Mm.miss {w : World} {b k : Nat} {N : ByteArray → Option (List ByteArray)} (h : Mm w b k N) {s : ByteArray} (hs : s.size ≤ maxLen) (hN : N s = none) :
    (Instr.lookup 37 (.map (some b)) (.string s) true).run Tryf.prog w = .ok (.tuple #[.slice none 0 0, .bool false]) w := by
  obtain ⟨D, V, h1, h2, h3, h4, h5, h6⟩ := h
  obtain ⟨e1, e2⟩ := h3 s
  cases hV : V s with
  | some x =>
    obtain ⟨g, n, c⟩ := x
    obtain ⟨z', q1, q2, q3⟩ := h5 s g n c hV
    rw [hN] at q1; cases q1
  | none =>
    obtain ⟨v, ps, hrun, hv⟩ := h1.look_ok strK Tryf.underlying37 (zeroS w) (RS_sv none) (keyS s hs)
    obtain ⟨o, rfl, ho⟩ := RS_inv hv
    injection ho with ho
    have : o = V s := dv_inj (ho.symm.trans e2)
    rw [this, e1, hV] at hrun
    unfold sv at hrun
    exact hrun
theorem Mm.len {w : World} {b k : Nat} {N : ByteArray → Option (List ByteArray)} (h : Mm w b k N) (ty : TypeId) : (Builtin.len_ #[37] ty #[.map (some b)]).run Tryf.prog w = .ok (.int .i64 k) w := by
  obtain ⟨D, V, h1, h2, -⟩ := h
  have := h1.len Tryf.underlying37 ty
  rw [h2] at this
  exact this
theorem grown_below_none {w w' : World} (hg : w.grownBy w' none) : Below w.heap.size w w' := (Below.refl _ _).grown hg (Nat.le_refl _) (fun _ h => by cases h)
/-- Another row than the map's block. -/
theorem own_map_ne {w : World} {base size n m b : Nat} {t : TypeId} {v : Value} {xs : List Value} {D : DataW Unit} (h : w.ownsRow base t size v n xs) (hm : w.ownsMap Tryf.prog 9 RS b m D) : some b ≠ v.ownBlock := by
  rcases own_row h with ⟨h, -, -⟩ | ⟨g, c, _, h, hg, hr⟩
  · rw [h]; simp
  · rw [h]
    intro e
    injection e with e
    subst e
    obtain ⟨cur, hc, _⟩ := hr
    obtain ⟨es, clock, hb, _⟩ := hm
    rw [hc] at hb
    injection hb with hb
    cases hb
end fnInc
end Go.Proofs.YtlahcemjknffnaaFmt
