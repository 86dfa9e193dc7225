/-
  What a slice that a call owns keeps: later worlds, other blocks. Conditions: none.
-/
import Derived.Test.YtlahcemjknffnaaFmtKit
import Derived.Deep.AppendLies
namespace Go.Proofs.YtlahcemjknffnaaFmt
open Go.RowKit
/-- append within the capacity at a step of a region that draws. -/
theorem step_append_fits {P : Program} (w : World) {ops : Array Oper} {o : Oper} {a : Act} {K : Act → World → Prop} {Q : Exit → Act → World → Prop} {E : Prop} (hg : o.guard = none) (s x : Operand) (t : TypeId)
    (hop : o.op = Op.call { callee := Callee.builtin Builtin.append, args := #[s, x], argTypes := #[t, t] })
    (base : Nat) (e : TypeId) (i : TypeInfo) (size : Nat) (h1 : P.underlying t = some (.slice e)) (h2 : P.info? e = some i) (h4 : i.size = size)
    (g k cap : Nat) (xs : List Value) (hs : a.eval s = .slice (some ⟨g, 0, none⟩) k cap) (hown : w.ownsRow base e size (.slice (some ⟨g, 0, none⟩) k cap) k xs) (ad : Addr) (m c : Nat) (news : List Value) (hx : a.eval x = .slice (some ad) m c) (hn : news.length = m * size)
    (hc : ∀ j u, news[j]? = some u → w.cell? (ad.add j) = some u) (h1c : ∀ u ∈ news, u.oneCell' = true) (b1 : k + m ≤ cap)
    (hK : ∀ w', w'.ownsRow base e size (.slice (some ⟨g, 0, none⟩) (k + m) cap) (k + m) (xs ++ news) → w.grownBy w' (some g) → K (a.put o.dst (.slice (some ⟨g, 0, none⟩) (k + m) cap)) w') :
    if Region.wanted o (yielded ops a.tmps) = true then Oper.wp P o a w K Q else E := by
  have hw : Region.wanted o (yielded ops a.tmps) = true := by simp [Region.wanted, hg]
  rw [if_pos hw]
  obtain ⟨w', hrun, r1, r2⟩ := run_append_fits (P := P) w base t o.type e i size h1 h2 h4 g k cap xs hown ad m c news hn hc h1c b1
  unfold Oper.wp
  simp [execOp, hop, resolve, invoke, builtin, hs, hx, hrun, Result.andThen]
  exact hK w' r1 r2
theorem Row.ne_row {w : World} {g g' : Nat} {t t' : TypeId} {xs xs' : List Value} (h : Row w g t xs) (h' : Row w g' t' xs') (hne : t ≠ t') : g ≠ g' := by
  rintro rfl
  obtain ⟨cur, h, _⟩ := h
  obtain ⟨cur', h', _⟩ := h'
  rw [h] at h'
  injection h' with h'
  injection h' with _ ht
  exact hne ht
theorem own_row {w : World} {base size n : Nat} {t : TypeId} {v : Value} {xs : List Value} (h : w.ownsRow base t size v n xs) : (v.ownBlock = none ∧ v = .slice none 0 0 ∧ n = 0) ∨ ∃ g c, v = .slice (some ⟨g, 0, none⟩) n c ∧ v.ownBlock = some g ∧ base ≤ g ∧ Row w g t xs := by
  obtain ⟨hl, h'⟩ := h
  rcases h' with ⟨hv, hn⟩ | ⟨g, cap, cur, hv, hbg, hh, h1, h2, h3, h4⟩
  · subst hv; exact .inl ⟨rfl, rfl, hn⟩
  · subst hv; exact .inr ⟨g, cap, rfl, rfl, hbg, Row.of_own ⟨hl, .inr ⟨g, cap, cur, rfl, hbg, hh, h1, h2, h3, h4⟩⟩⟩
theorem own_ne_blk {w : World} {base size n b : Nat} {t t' : TypeId} {v : Value} {xs : List Value} {cs : Array Value} (h : w.ownsRow base t size v n xs) (hb : Blk w b t' cs) (hne : t ≠ t') : some b ≠ v.ownBlock := by
  rcases own_row h with ⟨h, -, -⟩ | ⟨g, c, _, h, _, hr⟩
  · rw [h]; simp
  · rw [h]; intro e; injection e with e; exact hr.ne_blk hb hne e.symm
theorem own_ne_row {w : World} {base size n b : Nat} {t t' : TypeId} {v : Value} {xs ys : List Value} (h : w.ownsRow base t size v n xs) (hb : Row w b t' ys) (hne : t ≠ t') : some b ≠ v.ownBlock := by
  rcases own_row h with ⟨h, -, -⟩ | ⟨g, c, _, h, _, hr⟩
  · rw [h]; simp
  · rw [h]; intro e; injection e with e; exact hr.ne_row hb hne e.symm
theorem own_ne_new {w : World} {base size n : Nat} {t : TypeId} {v : Value} {xs : List Value} (h : w.ownsRow base t size v n xs) : some w.heap.size ≠ v.ownBlock := by
  rcases own_row h with ⟨h, -, -⟩ | ⟨g, c, _, h, hg, hr⟩
  · rw [h]; simp
  · rw [h]; intro e; injection e with e; have := hr.lt; omega
theorem own_lt_ne {w : World} {base size n b : Nat} {t : TypeId} {v : Value} {xs : List Value} (h : w.ownsRow base t size v n xs) (hb : b < base) : some b ≠ v.ownBlock := by
  rcases own_row h with ⟨h, -, -⟩ | ⟨g, c, _, h, hg, hr⟩
  · rw [h]; simp
  · rw [h]; intro e; injection e with e; omega
theorem own_base {w : World} {base size n : Nat} {t : TypeId} {v : Value} {xs : List Value} (h : w.ownsRow base t size v n xs) : ∀ k, v.ownBlock = some k → base ≤ k := by
  intro k hk
  rcases own_row h with ⟨h, -, -⟩ | ⟨g, c, _, h, hg, hr⟩
  · rw [h] at hk; cases hk
  · rw [h] at hk; injection hk with hk; omega
theorem own_far {w : World} {base size n : Nat} {t t' : TypeId} {v : Value} {xs : List Value} {b : Nat} {cs : Array Value} (h : w.ownsRow base t size v n xs) (hb : Blk w b t' cs) (hne : t ≠ t') (i : Nat) (u : Value) : (w.setCell ⟨b, i, none⟩ u).ownsRow base t size v n xs := by
  obtain ⟨hl, h'⟩ := h
  refine ⟨hl, ?_⟩
  rcases h' with h' | ⟨g, cap, cur, hv, hbg, hh, h1, h2, h3, h4⟩
  · exact .inl h'
  · refine .inr ⟨g, cap, cur, hv, hbg, (Below.heap_setCell w ⟨b, i, none⟩ u g ?_).trans hh, h1, h2, h3, h4⟩
    rintro rfl
    unfold Blk at hb
    rw [hh] at hb
    injection hb with hb
    injection hb with _ ht
    exact hne ht
theorem own_cap {w : World} {base size g n c : Nat} {t : TypeId} {xs : List Value} (h : w.ownsRow base t size (.slice (some ⟨g, 0, none⟩) n c) n xs) : n ≤ c ∧ c ≤ maxLen := by
  obtain ⟨hl, h'⟩ := h
  rcases h' with ⟨hv, hn⟩ | ⟨g', cap, cur, hv, hbg, hh, h1, h2, h3, h4⟩
  · cases hv
  · injection hv with e1 e2 e3
    subst e3
    exact ⟨h1, h2⟩
theorem own_later {w w' : World} {base size n : Nat} {t : TypeId} {v : Value} {xs : List Value} (h : w.ownsRow base t size v n xs) (hb : Below w.heap.size w w') : w'.ownsRow base t size v n xs := by
  obtain ⟨hl, h⟩ := h
  refine ⟨hl, ?_⟩
  rcases h with h | ⟨g, cap, cur, hv, hbg, hh, h1, h2, h3, h4⟩
  · exact .inl h
  · exact .inr ⟨g, cap, cur, hv, hbg, (hb.block g (lt_of_some hh)).trans hh, h1, h2, h3, h4⟩
theorem own_keep {w w' : World} {base size n : Nat} {t : TypeId} {v : Value} {xs : List Value} (h : w.ownsRow base t size v n xs) (hb : ∀ g, v.ownBlock = some g → w'.heap[g]? = w.heap[g]?) : w'.ownsRow base t size v n xs := by
  obtain ⟨hl, h'⟩ := h
  refine ⟨hl, ?_⟩
  rcases h' with h' | ⟨g, cap, cur, hv, hbg, hh, h1, h2, h3, h4⟩
  · exact .inl h'
  · exact .inr ⟨g, cap, cur, hv, hbg, (hb g (by rw [hv]; rfl)).trans hh, h1, h2, h3, h4⟩
theorem cell_alloc {w : World} {g i : Nat} {v : Value} (h : w.cell? ⟨g, i, none⟩ = some v) (o : Obj) : (w.alloc o).cell? ⟨g, i, none⟩ = some v := by
  rw [← h]; exact World.cell?_of_block (Below.heap_alloc w o g (World.block_lt_of_cell? _ _ h))
theorem Blk.new' (w : World) (t : TypeId) (cs : Array Value) {b : Nat} (h : b = w.heap.size) : Blk (w.alloc (.cells cs t)) b t cs := by subst h; exact Blk.new w t cs
/-- Six cells stored into a block. -/
def set6 (w : World) (b : Nat) (x0 x1 x2 x3 x4 x5 : Value) : World := (((((w.setCell ⟨b, 0, none⟩ x0).setCell ⟨b, 1, none⟩ x1).setCell ⟨b, 2, none⟩ x2).setCell ⟨b, 3, none⟩ x3).setCell ⟨b, 4, none⟩ x4).setCell ⟨b, 5, none⟩ x5
theorem Blk.far6 {w : World} {g b : Nat} {t : TypeId} {cs : Array Value} (h : Blk w g t cs) (hb : g ≠ b) (x0 x1 x2 x3 x4 x5 : Value) : Blk (set6 w b x0 x1 x2 x3 x4 x5) g t cs :=
  (((((h.far (p := ⟨b, 0, none⟩) hb _).far (p := ⟨b, 1, none⟩) hb _).far (p := ⟨b, 2, none⟩) hb _).far (p := ⟨b, 3, none⟩) hb _).far (p := ⟨b, 4, none⟩) hb _).far (p := ⟨b, 5, none⟩) hb _
theorem Blk.put6 {w : World} {b : Nat} {t : TypeId} {y0 y1 y2 y3 y4 y5 : Value} (h : Blk w b t #[y0, y1, y2, y3, y4, y5]) (x0 x1 x2 x3 x4 x5 : Value) : Blk (set6 w b x0 x1 x2 x3 x4 x5) b t #[x0, x1, x2, x3, x4, x5] := by
  have := (((((h.set 0 x0).set 1 x1).set 2 x2).set 3 x3).set 4 x4).set 5 x5
  unfold set6
  simpa using this
theorem grown_set6 {a w : World} {g : Nat} (h : a.grownBy w (some g)) {b : Nat} (hp : b = g ∨ a.heap.size ≤ b) (x0 x1 x2 x3 x4 x5 : Value) : a.grownBy (set6 w b x0 x1 x2 x3 x4 x5) (some g) :=
  grown_setCell (p := ⟨b, 5, none⟩) (grown_setCell (p := ⟨b, 4, none⟩) (grown_setCell (p := ⟨b, 3, none⟩) (grown_setCell (p := ⟨b, 2, none⟩) (grown_setCell (p := ⟨b, 1, none⟩) (grown_setCell (p := ⟨b, 0, none⟩) h hp _) hp _) hp _) hp _) hp _) hp _
end Go.Proofs.YtlahcemjknffnaaFmt
