/-
  Contracts of the helpers of n025_4: the token row, the elided set, the stops, the first EOF, fresh lexers. Conditions: the arguments read as slices of at most 32768 entries.
-/
import Derived.Test.YtnbpddcgpjjibaaP4
namespace Go.Proofs.Ytnbpddcgpjjibaa
open Go.RowKit
set_option linter.unusedSimpArgs false
set_option linter.unusedVariables false

theorem tokInfo : (Try.prog.info? 47).map (fun i => (i.zero, i.size, i.bytes)) = some (some (Value.agg #[.int .i64 0, .string ByteArray.empty, .string ByteArray.empty, .int .i64 0, .int .i64 0, .int .i64 0]), 6, 64) := by kernel_rfl
theorem intInfo : (Try.prog.info? 3).map (fun i => (i.zero, i.size, i.bytes)) = some (some (Value.int .i64 0), 1, 8) := by kernel_rfl

theorem Row.set {w : World} {g : Nat} {t : TypeId} {xs : List Value} (h : Row w g t xs) (i : Nat) (u : Value) : Row (w.setCell ⟨g, i, none⟩ u) g t (xs.set i u) := by
  obtain ⟨cur, hc, hx⟩ := h
  refine ⟨cur.setIfInBounds i u, by simp [World.setCell, Array.getElem?_modify, hc], fun j v hv => ?_⟩
  rw [List.getElem?_set] at hv
  split at hv
  · rename_i hij
    subst hij
    split at hv
    · rename_i hlt
      have := hx i xs[i] (List.getElem?_eq_getElem hlt)
      have hsz : i < cur.size := (Array.getElem?_eq_some_iff.1 this).1
      rw [Array.getElem?_setIfInBounds, if_pos rfl, if_pos hsz]
      exact hv
    · cases hv
  · rename_i hij
    rw [Array.getElem?_setIfInBounds, if_neg hij]
    exact hx j v hv

theorem Row.tok {w : World} {g : Nat} {ty : TypeId} {L : List Tok} (h : Row w g ty (toksCells L)) {i : Nat} (hi : i < L.length) : ∃ t : Tok, Hid (t = L.getD i eofTok) ∧
    w.cell? ⟨g, i * 6, none⟩ = some (.int .i64 t.ty) ∧ w.cell? ⟨g, i * 6 + 1, none⟩ = some (.string t.val) ∧ w.cell? ⟨g, i * 6 + 1 + 1, none⟩ = some (.string t.fn) ∧ w.cell? ⟨g, i * 6 + 1 + 1 + 1, none⟩ = some (.int .i64 t.off) ∧
    w.cell? ⟨g, i * 6 + 1 + 1 + 1 + 1, none⟩ = some (.int .i64 t.line) ∧ w.cell? ⟨g, i * 6 + 1 + 1 + 1 + 1 + 1, none⟩ = some (.int .i64 t.col) := by
  refine ⟨L.getD i eofTok, rfl, ?_, ?_, ?_, ?_, ?_, ?_⟩
  · exact h.cell (j := i * 6 + 0) (by rw [toksCells_at L i 0 (by omega) hi]; rfl)
  · exact h.cell (j := i * 6 + 1) (by rw [toksCells_at L i 1 (by omega) hi]; rfl)
  · exact h.cell (j := i * 6 + 2) (by rw [toksCells_at L i 2 (by omega) hi]; rfl)
  · exact h.cell (j := i * 6 + 3) (by rw [toksCells_at L i 3 (by omega) hi]; rfl)
  · exact h.cell (j := i * 6 + 4) (by rw [toksCells_at L i 4 (by omega) hi]; rfl)
  · exact h.cell (j := i * 6 + 5) (by rw [toksCells_at L i 5 (by omega) hi]; rfl)

def zeroTok : Tok := ⟨0, ByteArray.empty, ByteArray.empty, 0, 0, 0⟩
theorem toksCells_set : ∀ (L : List Tok) (j : Nat) (t : Tok), j < L.length →
    (((((((toksCells L).set (j * 6) (.int .i64 t.ty)).set (j * 6 + 1) (.string t.val)).set (j * 6 + 2) (.string t.fn)).set (j * 6 + 3) (.int .i64 t.off)).set (j * 6 + 4) (.int .i64 t.line)).set (j * 6 + 5) (.int .i64 t.col)) = toksCells (L.set j t)
  | x :: r, 0, t, _ => by simp [toksCells, Tok.cells]
  | x :: r, j + 1, t, h => by
    have ih := toksCells_set r j t (by simpa using h)
    show List.set _ _ _ = x.cells ++ toksCells (r.set j t)
    rw [← ih]
    have e : toksCells (x :: r) = x.cells ++ toksCells r := rfl
    rw [e]
    have key : ∀ (xs : List Value) (k : Nat) (v : Value), (x.cells ++ xs).set ((j + 1) * 6 + k) v = x.cells ++ xs.set (j * 6 + k) v := fun xs k v => by
      rw [List.set_append_right _ _ (by simp [Tok.cells]; omega)]
      congr 2
      simp [Tok.cells]; omega
    have k0 := fun xs v => key xs 0 v
    have k1 := fun xs v => key xs 1 v
    have k2 := fun xs v => key xs 2 v
    have k3 := fun xs v => key xs 3 v
    have k4 := fun xs v => key xs 4 v
    have k5 := fun xs v => key xs 5 v
    simp only [Nat.add_zero] at k0
    rw [k0, k1, k2, k3, k4, k5]
theorem Row.setTok {w : World} {g : Nat} {t : TypeId} {L : List Tok} (h : Row w g t (toksCells L)) (j : Nat) (x : Tok) (hj : j < L.length) :
    Row ((((((w.setCell ⟨g, j * 6, none⟩ (.int .i64 x.ty)).setCell ⟨g, j * 6 + 1, none⟩ (.string x.val)).setCell ⟨g, j * 6 + 2, none⟩ (.string x.fn)).setCell ⟨g, j * 6 + 3, none⟩ (.int .i64 x.off)).setCell ⟨g, j * 6 + 4, none⟩ (.int .i64 x.line)).setCell ⟨g, j * 6 + 5, none⟩ (.int .i64 x.col)) g t (toksCells (L.set j x)) := by
  rw [← toksCells_set L j x hj]
  exact (((((h.set _ _).set _ _).set _ _).set _ _).set _ _).set _ _
theorem below_setTok {B : Nat} {a w : World} {g j : Nat} (h : Below B a w) (hg : B ≤ g) (v0 v1 v2 v3 v4 v5 : Value) :
    Below B a ((((((w.setCell ⟨g, j * 6, none⟩ v0).setCell ⟨g, j * 6 + 1, none⟩ v1).setCell ⟨g, j * 6 + 2, none⟩ v2).setCell ⟨g, j * 6 + 3, none⟩ v3).setCell ⟨g, j * 6 + 4, none⟩ v4).setCell ⟨g, j * 6 + 5, none⟩ v5) :=
  (((((h.setCell hg v0).setCell hg v1).setCell hg v2).setCell hg v3).setCell hg v4).setCell hg v5
theorem madeToks (n : Nat) : (madeCells (Value.cells (Value.agg #[.int .i64 0, .string ByteArray.empty, .string ByteArray.empty, .int .i64 0, .int .i64 0, .int .i64 0])) (n * 6)).toList = toksCells (List.replicate n zeroTok) := by
  apply List.ext_getElem?
  intro i
  rcases Nat.lt_or_ge i (n * 6) with h | h
  · have e := toksCells_at (List.replicate n zeroTok) (i / 6) (i % 6) (Nat.mod_lt _ (by omega)) (by simp; omega)
    rw [Nat.div_add_mod'] at e
    rw [e]
    have hq : (List.replicate n zeroTok).getD (i / 6) eofTok = zeroTok := by
      rw [List.getD_eq_getElem?_getD, List.getElem?_replicate, if_pos (by omega)]; rfl
    rw [hq]
    have hm : i % 6 < 6 := Nat.mod_lt _ (by omega)
    simp only [madeCells, Array.toList_map, List.getElem?_map, Array.toList_range, List.getElem?_range h, Option.map_some]
    show some ((#[.int .i64 0, .string ByteArray.empty, .string ByteArray.empty, .int .i64 0, .int .i64 0, .int .i64 0] : Array Value)[i % 6]!) = _
    generalize i % 6 = r at hm
    match r, hm with
    | 0, _ => rfl
    | 1, _ => rfl
    | 2, _ => rfl
    | 3, _ => rfl
    | 4, _ => rfl
    | 5, _ => rfl
  · rw [List.getElem?_eq_none (by simp [madeCells]; omega), List.getElem?_eq_none (by rw [toksCells_length]; simp; omega)]

def ToksPost (w : World) (L : List Tok) (e : Ending) (w' : World) : Prop :=
  ∃ g cap, e = .returned (.slice (some ⟨g, 0, none⟩) L.length cap) ∧ w.heap.size ≤ g ∧ Row w' g 47 (toksCells L) ∧ Below w.heap.size w w'
/-- The row behind j rounds. -/
def t4Mid (z : List Int) (j : Nat) : List Tok := (t4Go 0 z).take j ++ List.replicate (z.length + 1 - j) zeroTok
theorem t4Mid_length (z : List Int) (j : Nat) (hj : j ≤ z.length) : (t4Mid z j).length = z.length + 1 := by
  have := t4_length z
  unfold t4 at this
  simp [t4Mid]; omega
theorem t4Mid_zero (z : List Int) : t4Mid z 0 = List.replicate (z.length + 1) zeroTok := by simp [t4Mid]
theorem t4Mid_succ (z : List Int) (j : Nat) (hj : j < z.length) : (t4Mid z j).set j ⟨z.getD j 0, ByteArray.empty, ByteArray.empty, (j : Int), 0, 0⟩ = t4Mid z (j + 1) := by
  have hl := t4_length z
  unfold t4 at hl
  unfold t4Mid
  have hs := t4_snoc z j hj
  rw [hs]
  rw [List.set_append_right _ _ (by simp; omega)]
  have e : j - ((t4Go 0 z).take j).length = 0 := by simp; omega
  rw [e, show z.length + 1 - j = (z.length + 1 - (j + 1)) + 1 by omega, List.replicate_succ, List.set_cons_zero]
  simp
theorem t4Mid_last (z : List Int) : (t4Mid z z.length).set z.length ⟨-1, ByteArray.empty, ByteArray.empty, (z.length : Int), 0, 0⟩ = t4 z := by
  have hl := t4_length z
  unfold t4 at hl
  rw [t4_last]
  unfold t4Mid
  rw [List.set_append_right _ _ (by simp; omega)]
  have e : z.length - ((t4Go 0 z).take z.length).length = 0 := by simp; omega
  rw [e, show z.length + 1 - z.length = 1 by omega]
  rfl

set_option maxHeartbeats 1000000 in
set_option maxRecDepth 100000 in
theorem toks_any (A0 : Option Addr) (n0 c0 : Nat) (z0 : List Int) (w : World) (ht : Ints .i64 w A0 n0 z0) (h0 : n0 ≤ 32768) :
    Calls Try.prog 38 #[.slice A0 n0 c0] w (ToksPost w (t4 z0)) := by
  obtain ⟨i0, hi, hz0, hz1, hz2⟩ := info_parts tokInfo
  have hl0 := ht.1
  have HL0 := Lib.hid hl0; clear hl0
  have HT := Lib.hid ht
  rcases ht.split with e0 | ⟨b0, o0, rfl, hc0⟩
  all_goals
    clear ht
    go_enter Try.func38, Try.ntmps38
    go_wp2_with (at_make; refine wpList_make_full _ rfl _ _ 38 rfl w.heap.size 47 i0 _ 6 Try.underlying38 hi hz0 hz1 _ _ _ _ (n0 + 1) rfl rfl (by omega) (by omega) (by rw [hz2]; omega) (by unfold maxLen; omega) (Nat.le_refl _) ?_; intro w1 hown1 hg1)
    rw [madeToks] at hown1
    have hrow1 := Row.of_own hown1
    have hb1 : Below w.heap.size w w1 := (Below.refl _ _).grown hg1 (Nat.le_refl _) (fun _ h => by cases h)
    clear hown1 hg1
    go_loopg [4] n0 (fun k i wr => ∃ j : Nat, k = n0 - j ∧ j ≤ n0 ∧ i = .int .i64 j ∧ Row wr w.heap.size 47 (toksCells (t4Mid z0 j)) ∧ Below w.heap.size w wr)
    case atStart => exact ⟨0, rfl, Nat.zero_le _, rfl, by rw [t4Mid_zero, HL0.out]; exact hrow1, hb1⟩
    case round =>
      obtain ⟨j, hk, hj, rfl, hrow, hbel⟩ := hrel
      have KK := Lib.hid hk; clear hk
      have hwlt : w.heap.size < wr.heap.size := hrow.lt
      have hml : (t4Mid z0 j).length = n0 + 1 := by rw [t4Mid_length _ _ (by rw [HL0.out]; exact hj), HL0.out]
      have HML := Lib.hid hml; clear hml
      obtain ⟨t, -, d0, d1, d2, d3, d4, d5⟩ := hrow.tok (i := j) (by rw [HML.out]; omega)
      have f0 := hrow.frozen (j * 6)
      have f1 := hrow.frozen (j * 6 + 1)
      have f2 := hrow.frozen (j * 6 + 1 + 1)
      have f3 := hrow.frozen (j * 6 + 1 + 1 + 1)
      have f4 := hrow.frozen (j * 6 + 1 + 1 + 1 + 1)
      have f5 := hrow.frozen (j * 6 + 1 + 1 + 1 + 1 + 1)
      by_cases hlt : j < n0
      · first
          | (exfalso; omega)
          | (obtain ⟨tj, htj⟩ : ∃ t, t = z0.getD j 0 := ⟨_, rfl⟩
             have hcj := (hbel.cell (p := ⟨b0, o0 + j, none⟩) (World.block_lt_of_cell? _ _ (hc0.out j hlt))).trans (hc0.out j hlt)
             rw [← htj] at hcj
             have HTJ := Lib.hid htj; clear htj
             go_wp2_with fail
             go_roundg (n0 - (j + 1))
             case measure => rw [KK.out]; omega
             case rel =>
               refine ⟨j + 1, rfl, by omega, by go_num, ?_, ?_⟩
               · have := hrow.setTok j ⟨tj, ByteArray.empty, ByteArray.empty, (j : Int), 0, 0⟩ (by rw [HML.out]; omega)
                 rw [HTJ.out, t4Mid_succ z0 j (by rw [HL0.out]; exact hlt), ← HTJ.out] at this
                 exact this
               · exact below_setTok hbel (Nat.le_refl _) _ _ _ _ _ _)
      · obtain rfl : n0 = j := by omega
        go_wp2_with fail
        go_ret
        refine ⟨w.heap.size, n0 + 1, ?_, Nat.le_refl _, ?_, ?_⟩
        · rw [t4_length, HL0.out]; rfl
        · have := hrow.setTok n0 ⟨-1, ByteArray.empty, ByteArray.empty, (n0 : Int), 0, 0⟩ (by rw [HML.out]; omega)
          have e := t4Mid_last z0
          rw [HL0.out] at e
          rw [e] at this
          exact this
        · exact below_setTok hbel (Nat.le_refl _) _ _ _ _ _ _

/-- Is x listed? -/
def inS (zs : List Int) (x : Int) : Bool := zs.contains x
def ElidePost (w : World) (S : Int → Bool) (e : Ending) (w' : World) : Prop :=
  ∃ b n, e = .returned (.map (some b)) ∧ w.heap.size ≤ b ∧ BSet Try.prog 45 4 w' b n S ∧ Below w.heap.size w w'
theorem contains_snoc (zs : List Int) (j : Nat) (hj : j < zs.length) (x : Int) : (x == zs.getD j 0 || (zs.take j).contains x) = (zs.take (j + 1)).contains x := by
  have e : zs.getD j 0 = zs[j] := by rw [List.getD_eq_getElem?_getD, List.getElem?_eq_getElem hj]; rfl
  rw [e, List.take_succ_eq_append_getElem hj, List.contains_eq_any_beq, List.contains_eq_any_beq, List.any_append, Bool.or_comm]
  simp only [List.any_cons, List.any_nil, Bool.or_false]

set_option maxRecDepth 100000 in
theorem elide_any (A0 : Option Addr) (n0 c0 : Nat) (z0 : List Int) (w : World) (ht : Ints .i64 w A0 n0 z0) (h0 : n0 ≤ 65536) :
    Calls Try.prog 39 #[.slice A0 n0 c0] w (ElidePost w (inS z0)) := by
  have hl0 := ht.1
  have HL0 := Lib.hid hl0; clear hl0
  have HT := Lib.hid ht
  have hmm := @run_makeMap Try.prog
  rcases ht.split with e0 | ⟨b0, o0, rfl, hc0⟩
  all_goals
    clear ht
    go_enter Try.func39, Try.ntmps39
    go_wp2_with fail
    go_loopg [4] n0 (fun k i wr => ∃ j : Nat, k = n0 - j ∧ j ≤ n0 ∧ i = .int .i64 j ∧ BSet Try.prog 45 4 wr w.heap.size j (fun x => (z0.take j).contains x) ∧ Below w.heap.size w wr)
    case atStart => exact ⟨0, rfl, Nat.zero_le _, rfl, (BSet.made w).congr (fun x => by simp), (Below.refl _ _).alloc (Nat.le_refl _) _⟩
    case round =>
      obtain ⟨j, hk, hj, rfl, hset, hbel⟩ := hrel
      have KK := Lib.hid hk; clear hk
      by_cases hlt : j < n0
      · first
          | (exfalso; omega)
          | (obtain ⟨tj, htj⟩ : ∃ t, t = z0.getD j 0 := ⟨_, rfl⟩
             have hcj := (hbel.cell (p := ⟨b0, o0 + j, none⟩) (World.block_lt_of_cell? _ _ (hc0.out j hlt))).trans (hc0.out j hlt)
             have hwf := HT.out.wf hlt
             rw [← htj] at hcj hwf
             have HTJ := Lib.hid htj; clear htj
             have HWF := Lib.hid hwf; clear hwf
             go_wp2_with (at_mapUpdate; refine wpList_store_bset _ rfl _ _ _ 39 rfl 45 4 Try.underlying45 Try.underlying4 Try.underlying39 w.heap.size j _ rfl hset (by unfold maxLen; omega) tj rfl rfl HWF.out ?_; intro w2 hset2 hg2; have hb2 : Below w.heap.size w w2 := hbel.grown hg2 hbel.size (fun k hk => by injection hk with hk; omega); clear hg2 hcj)
             go_roundg (n0 - (j + 1))
             case measure => rw [KK.out]; omega
             case rel => exact ⟨j + 1, rfl, by omega, by go_num, hset2.congr (fun x => by rw [HTJ.out]; exact contains_snoc z0 j (by rw [HL0.out]; exact hlt) x), hb2⟩)
      · go_wp2_with fail
        go_ret
        refine ⟨w.heap.size, j, rfl, Nat.le_refl _, hset.congr (fun x => ?_), hbel⟩
        unfold inS
        rw [List.take_of_length_le (by rw [HL0.out]; omega)]

end Go.Proofs.Ytnbpddcgpjjibaa
