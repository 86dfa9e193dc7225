/-
  zzCloneU8 and zzCloneI8 give a slice in new memory that reads the same. Conditions: at most 65536 entries.
-/
import Derived.Test.YtomfonilbenhbaaU2
import Derived.Laws.CopyOwn
import Derived.Lib.LazyBuf
namespace Go.Proofs.Ytomfonilbenhbaa
open Go.RowKit
set_option linter.unusedSimpArgs false
set_option linter.unusedVariables false
namespace Up
theorem u8Info : (Try.prog.info? 5).map (fun i => (i.zero, i.size, i.bytes)) = some (some (Value.int .u8 0), 1, 1) := by kernel_rfl
theorem own_cur {w : World} {base n c g : Nat} {t : TypeId} {xs : List Value} (h : w.ownsRow base t 1 (.slice (some ⟨g, 0, none⟩) n c) n xs) : ∃ cur : List Value, w.heap[g]? = some (.cells cur.toArray t (0, 0)) ∧ n ≤ cur.length := by
  obtain ⟨hl, h'⟩ := h
  rcases h' with ⟨hv, hn⟩ | ⟨g', cap, cur, hv, hbg, hh, h1, h2, h3, h4⟩
  · cases hv
  · injection hv with hv
    injection hv with hv
    injection hv with hv
    subst hv
    refine ⟨cur.toList, by simpa using hh, ?_⟩
    simp at *
    omega
theorem ints_src {k : IntKind} {w W : World} {a : Addr} {n : Nat} {z : List Int} (h : Ints k w (some a) n z) (hb : Below w.heap.size w W) : ∀ j v, (z.map (Value.int k))[j]? = some v → W.cell? (a.add j) = some v := by
  intro j v hj
  have hjl : j < z.length := by
    have := (List.getElem?_eq_some_iff.1 hj).1
    simpa using this
  have hn := h.1
  rcases h.split with g | ⟨b, off, e, hc⟩
  · omega
  · injection e with e
    subst e
    have hplain : (⟨b, off, none⟩ : Addr).add j = ⟨b, off + j, none⟩ := by unfold Addr.add; split <;> simp_all
    have hcj := hc.out j (by omega)
    rw [hplain, (hb.cell (p := ⟨b, off + j, none⟩) (World.block_lt_of_cell? _ _ hcj)).trans hcj]
    simp [List.getElem?_eq_getElem hjl] at hj
    subst hj
    simp [List.getD, List.getElem?_eq_getElem hjl]
theorem ints_new {k : IntKind} {w w2 : World} {A : Option Addr} {n g : Nat} {t : TypeId} {z : List Int} {cur : List Value} (h : Ints k w A n z) (hg : w2.heap[g]? = some (.cells (splice cur 0 (z.map (Value.int k))).toArray t (0, 0))) : Ints k w2 (some ⟨g, 0, none⟩) n z := by
  refine ⟨h.1, h.2.1, h.2.2.1, ?_⟩
  refine .inr ⟨g, 0, rfl, lt_of_some hg, fun i hi => ?_⟩
  have hl := h.1
  have : (splice cur 0 (z.map (Value.int k)))[i]? = some (.int k (z.getD i 0)) := by
    unfold splice
    rw [List.take_zero, List.nil_append, List.getElem?_append_left (by simp; omega)]
    simp [List.getElem?_eq_getElem (show i < z.length by omega)]
  rw [Nat.zero_add]
  simp [World.cell?, hg, this]
set_option maxHeartbeats 1000000 in
set_option maxRecDepth 100000 in
theorem cloneU8 (A : Option Addr) (n c : Nat) (z : List Int) (w : World) (hv : Ints .u8 w A n z) (h1 : n ≤ 65536) : Calls Try.prog 15 #[.slice A n c] w fun e w' => ∃ A' c', e = .returned (.slice A' n c') ∧ Ints .u8 w' A' n z ∧ Below w.heap.size w w' := by
  obtain ⟨i0, hi, hz0, hz1, hz2⟩ := info_parts u8Info
  have HL := Lib.hid hv.1
  have HV := Lib.hid hv
  cases A with
  | none =>
    obtain rfl : n = 0 := by
      rcases hv.2.2.2 with h | ⟨b, off, h, _⟩
      · exact h.1
      · cases h
    have hz : z = [] := List.eq_nil_of_length_eq_zero hv.1
    clear hv
    have hq := fun W => Lib.run_eql_slice_nil (P := Try.prog) W 22 5 none 0 c 0 0 Try.underlying22
    simp only [Option.isNone_none] at hq
    go_enter Try.func15, Try.ntmps15
    go_wp2_with fail
    go_ret
    exact ⟨none, 0, rfl, ⟨HL.out, Nat.zero_le _, by rw [hz]; simp, .inl ⟨rfl, hz⟩⟩, Below.refl _ _⟩
  | some a =>
    have hq := fun W => Lib.run_eql_slice_nil (P := Try.prog) W 22 5 (some a) n c 0 0 Try.underlying22
    simp only [Option.isNone_some] at hq
    clear hv
    go_enter Try.func15, Try.ntmps15
    go_wp2_with (first
      | (at_make; refine wpList_make_full _ rfl _ _ 22 rfl w.heap.size 5 i0 _ 1 Try.underlying22 hi hz0 hz1 _ _ _ _ n rfl rfl rfl rfl (by rw [hz2]; omega) (by unfold maxLen; omega) (Nat.le_refl _) ?_; intro w1 hown1 hg1; obtain ⟨cur, hcur, hcl⟩ := own_cur hown1; have hb1 : Below w.heap.size w w1 := (Below.refl _ _).grown hg1 (Nat.le_refl _) (fun _ h => by cases h))
      | (refine wpList_copy_splice rfl _ _ 22 22 rfl 5 Try.underlying22 (by kernel_rfl) _ _ n n n c rfl rfl w.heap.size 0 cur 5 hcur (z.map (Value.int .u8)) (by rw [List.length_map, HL.out]; exact (Nat.min_self n).symm) (fun _ => ⟨rfl, a, rfl, ints_src HV.out hb1⟩) (by rw [List.length_map, HL.out]; omega) (by intro v hv; obtain ⟨x, -, rfl⟩ := List.mem_map.1 hv; rfl) w.heap.size w hb1 (Nat.le_refl _) ?_; intro w2 HG hb2))
    go_ret
    exact ⟨_, _, rfl, ints_new HV.out HG.out, hb2⟩
theorem i8Info : (Try.prog.info? 56).map (fun i => (i.zero, i.size, i.bytes)) = some (some (Value.int .i8 0), 1, 1) := by kernel_rfl
set_option maxHeartbeats 1000000 in
set_option maxRecDepth 100000 in
theorem cloneI8 (A : Option Addr) (n c : Nat) (z : List Int) (w : World) (hv : Ints .i8 w A n z) (h1 : n ≤ 65536) : Calls Try.prog 16 #[.slice A n c] w fun e w' => ∃ A' c', e = .returned (.slice A' n c') ∧ Ints .i8 w' A' n z ∧ Below w.heap.size w w' := by
  obtain ⟨i0, hi, hz0, hz1, hz2⟩ := info_parts i8Info
  have HL := Lib.hid hv.1
  have HV := Lib.hid hv
  cases A with
  | none =>
    obtain rfl : n = 0 := by
      rcases hv.2.2.2 with h | ⟨b, off, h, _⟩
      · exact h.1
      · cases h
    have hz : z = [] := List.eq_nil_of_length_eq_zero hv.1
    clear hv
    have hq := fun W => Lib.run_eql_slice_nil (P := Try.prog) W 23 56 none 0 c 0 0 Try.underlying23
    simp only [Option.isNone_none] at hq
    go_enter Try.func16, Try.ntmps16
    go_wp2_with fail
    go_ret
    exact ⟨none, 0, rfl, ⟨HL.out, Nat.zero_le _, by rw [hz]; simp, .inl ⟨rfl, hz⟩⟩, Below.refl _ _⟩
  | some a =>
    have hq := fun W => Lib.run_eql_slice_nil (P := Try.prog) W 23 56 (some a) n c 0 0 Try.underlying23
    simp only [Option.isNone_some] at hq
    clear hv
    go_enter Try.func16, Try.ntmps16
    go_wp2_with (first
      | (at_make; refine wpList_make_full _ rfl _ _ 23 rfl w.heap.size 56 i0 _ 1 Try.underlying23 hi hz0 hz1 _ _ _ _ n rfl rfl rfl rfl (by rw [hz2]; omega) (by unfold maxLen; omega) (Nat.le_refl _) ?_; intro w1 hown1 hg1; obtain ⟨cur, hcur, hcl⟩ := own_cur hown1; have hb1 : Below w.heap.size w w1 := (Below.refl _ _).grown hg1 (Nat.le_refl _) (fun _ h => by cases h))
      | (refine wpList_copy_splice rfl _ _ 23 23 rfl 56 Try.underlying23 (by kernel_rfl) _ _ n n n c rfl rfl w.heap.size 0 cur 56 hcur (z.map (Value.int .i8)) (by rw [List.length_map, HL.out]; exact (Nat.min_self n).symm) (fun _ => ⟨rfl, a, rfl, ints_src HV.out hb1⟩) (by rw [List.length_map, HL.out]; omega) (by intro v hv; obtain ⟨x, -, rfl⟩ := List.mem_map.1 hv; rfl) w.heap.size w hb1 (Nat.le_refl _) ?_; intro w2 HG hb2))
    go_ret
    exact ⟨_, _, rfl, ints_new HV.out HG.out, hb2⟩
end Up
end Go.Proofs.Ytomfonilbenhbaa
