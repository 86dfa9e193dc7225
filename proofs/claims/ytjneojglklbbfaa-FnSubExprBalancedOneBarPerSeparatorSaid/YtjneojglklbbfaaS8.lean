/-
  Contracts over slices of TermSpec: the copy and the sequence. Conditions: sizes as stated.
-/
import Derived.Test.YtjneojglklbbfaaS7
import Derived.Lib.LazyBuf
namespace Go.Proofs.Ytjneojglklbbfaa
open Go.RowKit
set_option linter.unusedSimpArgs false
set_option linter.unusedVariables false
theorem specInfo : (Try.prog.info? 58).map (fun i => (i.zero, i.size, i.bytes)) = some (some (Value.agg #[.int .u8 0, .string ByteArray.empty, .int .u8 0]), 3, 32) := by kernel_rfl
theorem madeSpecs (n : Nat) : (madeCells (Value.cells (Value.agg #[.int .u8 0, .string ByteArray.empty, .int .u8 0])) (n * 3)).toList = specsCells (List.replicate n zeroSpec) := by
  apply List.ext_getElem?
  intro i
  rcases Nat.lt_or_ge i (n * 3) with h | h
  · have e := specsCells_at (List.replicate n zeroSpec) (i / 3) (i % 3) (Nat.mod_lt _ (by omega)) (by simp; omega)
    rw [Nat.div_add_mod'] at e
    rw [e]
    have hq : (List.replicate n zeroSpec).getD (i / 3) zeroSpec = zeroSpec := by
      rw [List.getD_eq_getElem?_getD, List.getElem?_replicate, if_pos (by omega)]; rfl
    rw [hq]
    have hm : i % 3 < 3 := Nat.mod_lt _ (by omega)
    simp only [madeCells, Array.toList_map, List.getElem?_map, Array.toList_range, List.getElem?_range h, Option.map_some]
    show some ((#[.int .u8 0, .string ByteArray.empty, .int .u8 0] : Array Value)[i % 3]!) = _
    generalize i % 3 = r at hm
    match r, hm with
    | 0, _ => rfl
    | 1, _ => rfl
    | 2, _ => rfl
  · rw [List.getElem?_eq_none (by simp [madeCells]; omega), List.getElem?_eq_none (by rw [specsCells_length]; simp; omega)]
theorem specsCells_set : ∀ (L : List Spec) (j : Nat) (t : Spec), j < L.length →
    ((((specsCells L).set (j * 3) (.int .u8 t.k)).set (j * 3 + 1) (.string t.s)).set (j * 3 + 2) (.int .u8 t.r)) = specsCells (L.set j t)
  | x :: r, 0, t, _ => by simp [specsCells, Spec.cells]
  | x :: r, j + 1, t, h => by
    have ih := specsCells_set r j t (by simpa using h)
    show List.set _ _ _ = x.cells ++ specsCells (r.set j t)
    rw [← ih]
    have e : specsCells (x :: r) = x.cells ++ specsCells r := rfl
    rw [e]
    have key : ∀ (xs : List Value) (k : Nat) (v : Value), (x.cells ++ xs).set ((j + 1) * 3 + k) v = x.cells ++ xs.set (j * 3 + k) v := fun xs k v => by
      rw [List.set_append_right _ _ (by simp [Spec.cells]; omega)]
      congr 2
      simp [Spec.cells]; omega
    have k0 := fun xs v => key xs 0 v
    have k1 := fun xs v => key xs 1 v
    have k2 := fun xs v => key xs 2 v
    simp only [Nat.add_zero] at k0
    rw [k0, k1, k2]
def cloneMidS (zs : List Spec) (j : Nat) : List Spec := zs.take j ++ List.replicate (zs.length - j) zeroSpec
theorem take_snocS (xs : List Spec) (i : Nat) (h : i < xs.length) : xs.take (i + 1) = xs.take i ++ [xs.getD i zeroSpec] := by
  rw [List.take_succ_eq_append_getElem h, List.getD_eq_getElem?_getD, List.getElem?_eq_getElem h]; rfl
theorem cloneMidS_length (zs : List Spec) (j : Nat) (h : j ≤ zs.length) : (cloneMidS zs j).length = zs.length := by simp [cloneMidS]; omega
theorem cloneMidS_set (zs : List Spec) (j : Nat) (h : j < zs.length) : (cloneMidS zs j).set j (zs.getD j zeroSpec) = cloneMidS zs (j + 1) := by
  unfold cloneMidS
  rw [List.set_append_right _ _ (by simp; omega), take_snocS zs j h]
  have e : j - (zs.take j).length = 0 := by simp; omega
  rw [e, show zs.length - j = (zs.length - (j + 1)) + 1 by omega, List.replicate_succ, List.set_cons_zero]
  simp
theorem cloneMidS_full (zs : List Spec) : cloneMidS zs zs.length = zs := by simp [cloneMidS]
theorem Row.setSpec {w : World} {g : Nat} {t : TypeId} {L : List Spec} (h : Row w g t (specsCells L)) (j : Nat) (x : Spec) (hj : j < L.length) :
    Row (((w.setCell ⟨g, j * 3, none⟩ (.int .u8 x.k)).setCell ⟨g, j * 3 + 1, none⟩ (.string x.s)).setCell ⟨g, j * 3 + 1 + 1, none⟩ (.int .u8 x.r)) g t (specsCells (L.set j x)) := by
  rw [← specsCells_set L j x hj]
  exact ((h.set _ _).set _ _).set _ _
theorem Row.spec {w : World} {g : Nat} {ty : TypeId} {L : List Spec} (h : Row w g ty (specsCells L)) {i : Nat} (hi : i < L.length) :
    w.cell? ⟨g, i * 3, none⟩ = some (.int .u8 (L.getD i zeroSpec).k) ∧ w.cell? ⟨g, i * 3 + 1, none⟩ = some (.string (L.getD i zeroSpec).s) ∧ w.cell? ⟨g, i * 3 + 1 + 1, none⟩ = some (.int .u8 (L.getD i zeroSpec).r) := by
  refine ⟨?_, ?_, ?_⟩
  · exact h.cell (j := i * 3 + 0) (by rw [specsCells_at L i 0 (by omega) hi]; rfl)
  · exact h.cell (j := i * 3 + 1) (by rw [specsCells_at L i 1 (by omega) hi]; rfl)
  · exact h.cell (j := i * 3 + 2) (by rw [specsCells_at L i 2 (by omega) hi]; rfl)
def ClonePostS (w : World) (n : Nat) (zs : List Spec) (e : Ending) (w' : World) : Prop := ∃ A' c', e = .returned (.slice A' n c') ∧ Specs w' A' n zs ∧ Below w.heap.size w w'
set_option maxHeartbeats 1000000 in
set_option maxRecDepth 100000 in
theorem cloneSpecs_any (A : Option Addr) (n c : Nat) (z : List Spec) (w : World) (hv : Specs w A n z) (h1 : n ≤ 65536) : Calls Try.prog 24 #[.slice A n c] w (ClonePostS w n z) := by
  obtain ⟨i0, hi, hz0, hz1, hz2⟩ := info_parts specInfo
  have HL := Lib.hid hv.1
  have HV := Lib.hid hv
  cases A with
  | none =>
    obtain rfl : n = 0 := by
      rcases hv.2.2.2 with h | ⟨b, off, h, _⟩
      · exact h.1
      · cases h
    have hz : z = [] := List.eq_nil_of_length_eq_zero hv.1
    clear hv
    have hq := fun W => Lib.run_eql_slice_nil (P := Try.prog) W 52 58 none 0 c 0 0 Try.underlying52
    simp only [Option.isNone_none] at hq
    go_enter Try.func24, Try.ntmps24
    go_wp2_with fail
    go_ret
    exact ⟨none, 0, rfl, ⟨HL.out, Nat.zero_le _, by rw [hz]; simp, .inl ⟨rfl, hz⟩⟩, Below.refl _ _⟩
  | some a =>
    have hq := fun W => Lib.run_eql_slice_nil (P := Try.prog) W 52 58 (some a) n c 0 0 Try.underlying52
    simp only [Option.isNone_some] at hq
    have hsp : n ≤ 0 ∨ ∃ b off, a = ⟨b, off, none⟩ ∧ Hid (∀ i, i < n → w.cell? ⟨b, off + i * 3, none⟩ = some (.int .u8 (z.getD i zeroSpec).k) ∧ w.cell? ⟨b, off + i * 3 + 1, none⟩ = some (.string (z.getD i zeroSpec).s) ∧ w.cell? ⟨b, off + i * 3 + 1 + 1, none⟩ = some (.int .u8 (z.getD i zeroSpec).r)) := by
      rcases hv.split with h | ⟨b, off, h, hc⟩
      · exact .inl h
      · exact .inr ⟨b, off, by injection h, hc⟩
    clear hv
    rcases hsp with h0 | ⟨b0, o0, rfl, hc0⟩
    all_goals
      go_enter Try.func24, Try.ntmps24
      go_wp2_with (at_make; refine wpList_make_full _ rfl _ _ 52 rfl w.heap.size 58 i0 _ 3 Try.underlying52 hi hz0 hz1 _ _ _ _ n rfl rfl rfl rfl (by rw [hz2]; omega) (by unfold maxLen; omega) (Nat.le_refl _) ?_; intro w1 hown1 hg1)
      rw [madeSpecs] at hown1
      have hrow1 := Row.of_own hown1
      have e1 : List.replicate n zeroSpec = cloneMidS z 0 := by unfold cloneMidS; rw [HL.out]; simp
      rw [e1] at hrow1
      have hb1 : Below w.heap.size w w1 := (Below.refl _ _).grown hg1 (Nat.le_refl _) (fun _ h => by cases h)
      clear hown1 hg1 e1 hq
      go_loopg [4] n (fun k i wr => ∃ j : Nat, k = n - j ∧ j ≤ n ∧ i = .int .i64 j ∧ Row wr w.heap.size 58 (specsCells (cloneMidS z j)) ∧ Below w.heap.size w wr)
      case atStart => exact ⟨0, rfl, Nat.zero_le _, rfl, hrow1, hb1⟩
      case round =>
        obtain ⟨j, hk, hj, rfl, hrow, hbel⟩ := hrel
        have KK := Lib.hid hk; clear hk
        by_cases hlt : j < n
        · first
            | (exfalso; omega)
            | (obtain ⟨hc1, hc2, hc3⟩ := hc0.out j hlt
               have hcj := (hbel.cell (p := ⟨b0, o0 + j * 3, none⟩) (World.block_lt_of_cell? _ _ hc1)).trans hc1
               have hcj2 := (hbel.cell (p := ⟨b0, o0 + j * 3 + 1, none⟩) (World.block_lt_of_cell? _ _ hc2)).trans hc2
               have hcj3 := (hbel.cell (p := ⟨b0, o0 + j * 3 + 1 + 1, none⟩) (World.block_lt_of_cell? _ _ hc3)).trans hc3
               have hmid : j < (cloneMidS z j).length := by rw [cloneMidS_length z j (by rw [HL.out]; exact hj), HL.out]; exact hlt
               obtain ⟨ho1, ho2, ho3⟩ := hrow.spec hmid
               generalize (cloneMidS z j).getD j zeroSpec = old at ho1 ho2 ho3
               have fz1 := hrow.frozen (j * 3)
               have fz2 := hrow.frozen (j * 3 + 1)
               have fz3 := hrow.frozen (j * 3 + 1 + 1)
               have hset := hrow.setSpec j (z.getD j zeroSpec) hmid
               rw [cloneMidS_set z j (by rw [HL.out]; exact hlt)] at hset
               have HSET := Lib.hid hset
               generalize z.getD j zeroSpec = sj at hcj hcj2 hcj3 HSET
               clear hset hc1 hc2 hc3 hmid
               go_wp2_with fail
               go_roundg (n - (j + 1))
               case measure => rw [KK.out]; omega
               case rel => exact ⟨j + 1, rfl, by omega, by go_num, HSET.out, ((hbel.setCell (p := ⟨w.heap.size, _, none⟩) (Nat.le_refl _) _).setCell (p := ⟨w.heap.size, _, none⟩) (Nat.le_refl _) _).setCell (p := ⟨w.heap.size, _, none⟩) (Nat.le_refl _) _⟩)
        · obtain rfl : n = j := by omega
          rw [← HL.out, cloneMidS_full] at hrow
          go_wp2_with fail
          go_ret
          exact ⟨some ⟨w.heap.size, 0, none⟩, n, rfl, Specs.of_row hrow HL.out HV.out.2.1 HV.out.2.2.1, hbel⟩
end Go.Proofs.Ytjneojglklbbfaa
