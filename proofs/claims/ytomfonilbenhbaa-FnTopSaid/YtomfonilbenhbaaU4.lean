/-
  zzBuild gives a new row of tokens of the listed types, then EOF. Conditions: at most 65536 types.
-/
import Derived.Test.YtomfonilbenhbaaU3
import Derived.Test.YtomfonilbenhbaaN9B
import Derived.Test.YtomfonilbenhbaaOwn
import Derived.IntWalk
namespace Go.Proofs.Ytomfonilbenhbaa
open Go.RowKit
set_option linter.unusedSimpArgs false
set_option linter.unusedVariables false
namespace Up
/-- A built row: the listed types, then EOF. -/
def Built (z : List Int) (L : List Tok) : Prop := types L = z ++ [-1]
def BuildPost (w : World) (z : List Int) (e : Ending) (w' : World) : Prop :=
  ∃ (L : List Tok) (g c : Nat), e = .returned (.slice (some ⟨g, 0, none⟩) L.length c) ∧ Built z L ∧ w.heap.size ≤ g ∧ Row w' g 46 (toksCells L) ∧ Below w.heap.size w w'
theorem types_snoc (l : List Tok) (t : Tok) : types (l ++ [t]) = types l ++ [t.ty] := by simp [types]
set_option maxHeartbeats 2000000 in
set_option maxRecDepth 100000 in
theorem build_any (A : Option Addr) (n c : Nat) (z : List Int) (w : World) (hv : Ints .u8 w A n z) (hn : n ≤ 65536) :
    Calls Try.prog 17 #[.slice A n c] w (BuildPost w z) := by
  obtain ⟨i0, hi, hz0, hz1, hz2⟩ := info_parts Go.Proofs.Ytomfonilbenhbaa.tokInfo
  have HL := Lib.hid hv.1
  have HV := Lib.hid hv
  clear hv
  go_enter Try.func17, Try.ntmps17
  go_wp2_with (at_make; (refine wpList_make_own _ rfl _ _ 27 rfl w.heap.size 46 i0 _ 6 Try.underlying27 hi hz0 hz1 _ _ _ (n + 1) rfl rfl (by omega) (by rw [hz2]; omega) (by unfold maxLen; omega) (Nat.le_refl _) ?_); intro w1 hown1 hg1)
  have hb1 : Below w.heap.size w w1 := (Below.refl _ _).grown hg1 (Nat.le_refl _) (fun _ h => by cases h)
  clear hg1
  go_loopg [4, 5] n (fun k v i wr => ∃ (j : Nat) (pre : List Tok), k = n - j ∧ j ≤ n ∧ pre.length = j ∧ types pre = z.take j ∧ i = .int .i64 j ∧ v = .slice (some ⟨w.heap.size, 0, none⟩) j (n + 1) ∧ wr.ownsRow w.heap.size 46 6 (.slice (some ⟨w.heap.size, 0, none⟩) j (n + 1)) j (toksCells pre) ∧ Below w.heap.size w wr)
  case atStart => exact ⟨0, [], rfl, Nat.zero_le _, rfl, rfl, rfl, rfl, hown1, hb1⟩
  case round =>
    obtain ⟨j, pre, hk, hj, hpl, hty, rfl, rfl, hown, hbel⟩ := hrel
    have KK := Lib.hid hk; clear hk hb1 hown1
    have HP := Lib.hid hpl; clear hpl
    have HTY := Lib.hid hty; clear hty
    by_cases hlt : j < n
    · rcases HV.out.split with h | ⟨b, off, rfl, hc⟩
      · exfalso; omega
      · have hcj0 := hc.out j hlt
        have hcj := (hbel.cell (p := ⟨b, off + j, none⟩) (World.block_lt_of_cell? _ _ hcj0)).trans hcj0
        have hwf := HV.out.wf hlt
        have hr : 0 ≤ z.getD j 0 ∧ z.getD j 0 ≤ 255 := by
          simp [Lit.wf, IntKind.min, IntKind.max, IntKind.signed, IntKind.bits] at hwf
          simpa using hwf
        have HT := Lib.hid (take_snocI z j (by rw [HL.out]; exact hlt))
        clear hcj0 hwf hc
        generalize z.getD j 0 = zj at hcj hr HT
        have hsz := hbel.size
        have hi0 : (0 : Int) ≤ (j : Int) := by omega
        have hi1 : (j : Int) < (n : Int) := by omega
        have hblt := World.block_lt_of_cell? _ _ hcj
        have q1 : IntKind.i64.wrap ((j : Int) + 1) = (j : Int) + 1 := IntWalk.i64_in _ (by omega)
        have q2 : IntKind.i64.wrap zj = zj := IntWalk.i64_in _ (by omega)
        have hj63 : j ≤ 9223372036854775807 := by omega
        have hj1 : j + 1 ≤ n + 1 := by omega
        go_wp2_with fail
        go_region_law (first
          | (refine step_append_fits _ (by rfl) _ _ 27 (by rfl) w.heap.size 46 i0 6 Try.underlying27 hi hz1 w.heap.size j (n + 1) (toksCells pre) (by rfl) (hownA.alloc _) ⟨w1.heap.size, 0, none⟩ 1 1 (Tok.cells ⟨zj, s, ByteArray.empty, j, 1, (j : Int) + 1⟩) (by rfl) (by rfl) (World.news_of_block (heap_alloc_new _ _)) (cells_one ⟨_, _, _, _, _, _⟩) hj1 ?_; intro w6 hown6 hg6)
          | (go_simp; go_at_call 60; refine (itoa_any j _ hj63).mono ?_; rintro e w1 ⟨s, rfl, hss, hb1⟩; have hownA := own_later hown.drew hb1; have hc1 : w1.cell? ⟨b, off + j, none⟩ = some (.int .u8 zj) := (hb1.cell (p := ⟨b, off + j, none⟩) hblt).trans hcj))
        all_goals
          have hb6 : Below w.heap.size w w6 := ((below_next hb1 (hbel.drew)).alloc (by have := hb1.size; simp at this; omega) _).grown hg6 (by have := hb1.size; simp at this ⊢; omega) (fun k hk => by injection hk with hk; omega)
          have hownN : w6.ownsRow w.heap.size 46 6 (.slice (some ⟨w.heap.size, 0, none⟩) (j + 1) (n + 1)) (j + 1) (toksCells (pre ++ [⟨zj, s, ByteArray.empty, j, 1, (j : Int) + 1⟩])) := by
            rw [toksCells_snoc]; exact hown6
          have htyN : types (pre ++ [⟨zj, s, ByteArray.empty, j, 1, (j : Int) + 1⟩]) = z.take (j + 1) := by rw [types_snoc, HTY.out, HT.out]
          have HTN := Lib.hid htyN
          clear hown6 hg6 hownA hown hc1 hb1 htyN q1 q2
          go_wp2_with fail
          go_roundg (n - (j + 1))
          case measure => rw [KK.out]; omega
          case rel => exact ⟨j + 1, _, rfl, by omega, by simp [HP.out], HTN.out, by go_num, rfl, hownN, hb6⟩
    · have hjn : j = n := by omega
      have HJN := Lib.hid hjn; clear hjn
      go_wp2_with (at_builtin; refine wpList_append_fits _ rfl _ _ 27 rfl w.heap.size 46 i0 6 Try.underlying27 hi hz1 w.heap.size j (n + 1) (toksCells pre) rfl (hown.alloc _) ⟨wr.heap.size, 0, none⟩ 1 1 (Tok.cells ⟨-1, ByteArray.empty, ByteArray.empty, n, 1, (n : Int) + 1⟩) rfl rfl ?_ ?_ (by omega) ?_; (exact World.news_of_block (heap_alloc_new _ _)); (exact cells_one ⟨_, _, _, _, _, _⟩); intro w2 hown2 hg2; have hb2 : Below w.heap.size w w2 := (hbel.alloc hbel.size _).grown hg2 (by have := hbel.size; simp; omega) (fun k hk => by injection hk with hk; omega); clear hg2)
      go_ret
      refine ⟨pre ++ [⟨-1, ByteArray.empty, ByteArray.empty, n, 1, (n : Int) + 1⟩], w.heap.size, n + 1, ?_, ?_, Nat.le_refl _, ?_, hb2⟩
      · simp [HP.out]
      · unfold Built
        rw [types_snoc, HTY.out, List.take_of_length_le (by rw [HL.out, HJN.out]; exact Nat.le_refl _)]
      · rw [toksCells_snoc]; exact Row.of_own hown2
end Up
end Go.Proofs.Ytomfonilbenhbaa
