/-
  zzElide copies a list of int8 to token types. Conditions: at most 65536 entries.
-/
import Derived.Test.YtomfonilbenhbaaU1
import Derived.Deep.LoopGhost
import Derived.OwnWalk
namespace Go.Proofs.Ytomfonilbenhbaa
open Go.RowKit
set_option linter.unusedSimpArgs false
set_option linter.unusedVariables false
namespace Up
theorem one_news {w : World} {o : Value} {t : TypeId} : ∀ (j : Nat) (u : Value), [o][j]? = some u → (w.alloc (.cells #[o] t)).cell? ((⟨w.heap.size, 0, none⟩ : Addr).add j) = some u := by
  intro j u hj
  obtain ⟨rfl, rfl⟩ : j = 0 ∧ u = o := by
    match j, hj with
    | 0, hj => simp at hj; exact ⟨rfl, hj.symm⟩
  exact (cell_new' w _ t w.heap.size 0 rfl)
theorem tokInfo : (Try.prog.info? 42).map (fun i => (i.zero, i.size, i.bytes)) = some (some (Value.int .i64 0), 1, 8) := by kernel_rfl
theorem take_snocI (xs : List Int) (i : Nat) (h : i < xs.length) : xs.take (i + 1) = xs.take i ++ [xs.getD i 0] := by
  rw [List.take_succ_eq_append_getElem h]
  simp [List.getElem?_eq_getElem h]
def intsV (z : List Int) : List Value := z.map (Value.int .i64)
set_option maxHeartbeats 2000000 in
set_option maxRecDepth 100000 in
theorem el_any (A : Option Addr) (n c : Nat) (z : List Int) (w : World) (hv : Ints .i8 w A n z) (hn : n ≤ 65536) :
    Calls Try.prog 19 #[.slice A n c] w fun e w' => e = .returned (.slice (some ⟨w.heap.size, 0, none⟩) n n) ∧ w'.ownsRow w.heap.size 42 1 (.slice (some ⟨w.heap.size, 0, none⟩) n n) n (intsV z) ∧ Below w.heap.size w w' := by
  obtain ⟨i0, hi, hz0, hz1, hz2⟩ : ∃ i0, Try.prog.info? 42 = some i0 ∧ i0.zero = some (Value.int .i64 0) ∧ i0.size = 1 ∧ i0.bytes = 8 := by
    have := tokInfo
    cases h : Try.prog.info? 42 with
    | none => rw [h] at this; cases this
    | some i => rw [h] at this; simp at this; exact ⟨i, rfl, this.1, this.2.1, this.2.2⟩
  have HL := Lib.hid hv.1
  have HV := Lib.hid hv
  clear hv
  go_enter Try.func19, Try.ntmps19
  go_wp2_with (at_make; refine wpList_make_own _ rfl _ _ 38 rfl w.heap.size 42 i0 _ 1 Try.underlying38 hi hz0 hz1 _ _ _ n rfl rfl rfl (by rw [hz2]; omega) (by unfold maxLen; omega) (Nat.le_refl _) ?_; intro w4 hown4 hg4)
  have hb4 : Below w.heap.size w w4 := (Below.refl _ _).grown hg4 (Nat.le_refl _) (fun _ h => by cases h)
  clear hg4
  go_loopg [3, 4] n (fun k v i wr => ∃ (j : Nat), k = n - j ∧ j ≤ n ∧ i = .int .i64 j ∧ v = .slice (some ⟨w.heap.size, 0, none⟩) j n ∧ wr.ownsRow w.heap.size 42 1 (.slice (some ⟨w.heap.size, 0, none⟩) j n) j (intsV (z.take j)) ∧ Below w.heap.size w wr)
  case atStart => exact ⟨0, rfl, Nat.zero_le _, rfl, rfl, hown4, hb4⟩
  case round =>
    obtain ⟨j, hk, hj, rfl, rfl, hown, hbel⟩ := hrel
    have KK := Lib.hid hk; clear hk hb4 hown4
    by_cases hlt : j < n
    · rcases HV.out.split with h | ⟨b, off, rfl, hc⟩
      · exfalso; omega
      · have hcj0 := hc.out j hlt
        have hcj := (hbel.cell (p := ⟨b, off + j, none⟩) (World.block_lt_of_cell? _ _ hcj0)).trans hcj0
        have hwf := HV.out.wf hlt
        have hr : -128 ≤ z.getD j 0 ∧ z.getD j 0 ≤ 127 := by
          simp [Lit.wf, IntKind.min, IntKind.max, IntKind.signed, IntKind.bits] at hwf
          simpa using hwf
        have HT := Lib.hid (take_snocI z j (by rw [HL.out]; exact hlt))
        clear hcj0 hwf
        generalize z.getD j 0 = zj at hcj hr HT
        have hsz := hbel.size
        go_wp2_with (at_builtin; refine wpList_append_fits _ rfl _ _ 38 rfl w.heap.size 42 i0 1 Try.underlying38 hi hz1 w.heap.size j n (intsV (z.take j)) rfl (hown.alloc _) ⟨wr.heap.size, 0, none⟩ 1 1 [.int .i64 zj] rfl rfl one_news (by intro u hu; simp at hu; subst hu; rfl) (by omega) ?_; intro w6 hown6 hg6)
        have hb6 : Below w.heap.size w w6 := (hbel.alloc hsz _).grown hg6 (by simp; omega) (fun k hk => by injection hk with hk; omega)
        have hownN : w6.ownsRow w.heap.size 42 1 (.slice (some ⟨w.heap.size, 0, none⟩) (j + 1) n) (j + 1) (intsV (z.take (j + 1))) := by
          have := hown6
          rwa [show intsV (z.take j) ++ [Value.int .i64 zj] = intsV (z.take (j + 1)) from by rw [HT.out]; simp [intsV]] at this
        clear hown6 hg6 hown
        go_wp2_with fail
        go_roundg (n - (j + 1))
        case measure => rw [KK.out]; omega
        case rel => exact ⟨j + 1, rfl, by omega, by go_num, rfl, hownN, hb6⟩
    · obtain rfl : n = j := by omega
      have hdl : decide (n < n) = false := by simp
      have hfin : wr.ownsRow w.heap.size 42 1 (.slice (some ⟨w.heap.size, 0, none⟩) n n) n (intsV z) := by
        have := hown
        rwa [List.take_of_length_le (by rw [HL.out]; omega)] at this
      clear hown
      go_wp2_with fail
      go_ret
      exact ⟨rfl, hfin, hbel⟩
end Up
end Go.Proofs.Ytomfonilbenhbaa
