/-
  The copy of a slice of slices of strings in n025_5. Conditions: sizes as stated.
-/
import Derived.Test.YtjneojglklbbfaaC2
namespace Go.Proofs.Ytjneojglklbbfaa
open Go.RowKit
set_option linter.unusedSimpArgs false
set_option linter.unusedVariables false
namespace fnSubExprBalancedOneBarPerSeparator
/-- The row behind j rounds; from j on it holds nil slices. -/
def CopyMid (w : World) (g n : Nat) (zss : List (List ByteArray)) (j : Nat) (vs : List Value) : Prop :=
  AltMid Strs w g n zss j vs ∧ ∀ i, j ≤ i → i < n → vs[i]? = some (.slice none 0 0)
theorem CopyMid.step {w w1 : World} {g n : Nat} {zss : List (List ByteArray)} {j : Nat} {vs : List Value} (h : CopyMid w g n zss j vs) (hj : j < n) (hb : Below w.heap.size w w1) (hgl : g < w.heap.size)
    {A : Option Addr} {m c : Nat} (hs : Strs w1 A m (zss.getD j [])) (hA : ∀ a, A = some a → w.heap.size ≤ a.block) : CopyMid (w1.setCell ⟨g, j, none⟩ (.slice A m c)) g n zss (j + 1) (vs.set j (.slice A m c)) := by
  refine ⟨h.1.step strs_kept strs_keptG hj hb hgl hs hA, fun i hi hn => ?_⟩
  rw [List.getElem?_set, if_neg (by omega)]
  exact h.2 i (by omega) hn
theorem CopyMid.skip {w : World} {g n : Nat} {zss : List (List ByteArray)} {j : Nat} {vs : List Value} (h : CopyMid w g n zss j vs) (hj : j < n) (hz : zss.getD j [] = []) : CopyMid w g n zss (j + 1) vs := by
  refine ⟨⟨h.1.1, fun i hi => ?_⟩, fun i hi hn => h.2 i (by omega) hn⟩
  rcases Nat.lt_or_ge i j with hij | hij
  · exact h.1.2 i hij
  · obtain rfl : i = j := by omega
    exact ⟨none, 0, 0, h.2 i (Nat.le_refl _) hj, by rw [hz]; exact ⟨rfl, Nat.zero_le _, by simp, .inl ⟨rfl, rfl⟩⟩, fun a ha => by cases ha⟩
set_option maxHeartbeats 4000000 in
set_option maxRecDepth 100000 in
theorem copy_any (A : Option Addr) (n c : Nat) (z : List (List ByteArray)) (w : World) (hv : Alts Strs w A n z) (h1 : n ≤ 1048576) (hin : ∀ i, i < n → (z.getD i []).length ≤ 1048576) : Calls Try.prog 20 #[.slice A n c] w (ClonePostF (Alts Strs) w n z) := by
  obtain ⟨i0, hi, hz0, hz1, hz2⟩ := info_parts cloneNamesInfo
  obtain ⟨i1, hi1, hy0, hy1, hy2⟩ := info_parts strInfo
  have HL := Lib.hid hv.1
  have HV := Lib.hid hv
  have HIN := Lib.hid hin; clear hin
  cases A with
  | none =>
    obtain rfl : n = 0 := by
      rcases hv.2.2 with h | ⟨b, off, h, _⟩
      · exact h.1
      · cases h
    have hz : z = [] := List.eq_nil_of_length_eq_zero hv.1
    clear hv
    have hq := fun W => Lib.run_eql_slice_nil (P := Try.prog) W 46 22 none 0 c 0 0 Try.underlying46
    simp only [Option.isNone_none] at hq
    go_enter Try.func20, Try.ntmps20
    go_wp2_with fail
    go_ret
    exact ⟨none, 0, rfl, ⟨HL.out, Nat.zero_le _, .inl ⟨rfl, hz⟩⟩, Below.refl _ _, Lib.hid (fun a h => by cases h)⟩
  | some a =>
    have hq := fun W => Lib.run_eql_slice_nil (P := Try.prog) W 46 22 (some a) n c 0 0 Try.underlying46
    simp only [Option.isNone_some] at hq
    clear hv
    go_enter Try.func20, Try.ntmps20
    go_wp2_with (at_make; refine wpList_make_full _ rfl _ _ 46 rfl w.heap.size 22 i0 _ 1 Try.underlying46 hi hz0 hz1 _ _ _ _ n rfl rfl rfl rfl (by rw [hz2]; omega) (by unfold maxLen; omega) (Nat.le_refl _) ?_; intro w1 hown1 hg1)
    have e1 : (madeCells (Value.cells (Value.slice none 0 0)) (n * 1)).toList = List.replicate n (Value.slice none 0 0) := by
      rw [Nat.mul_one]
      exact toList_madeCells_one (.slice none 0 0) n
    rw [e1] at hown1
    have hrow1 := Row.of_own hown1
    have hb1 : Below w.heap.size w w1 := (Below.refl _ _).grown hg1 (Nat.le_refl _) (fun _ h => by cases h)
    clear hown1 hg1 e1 hq
    go_loopg [4] n (fun k i wr => ∃ (j : Nat) (vs : List Value), k = n - j ∧ j ≤ n ∧ i = .int .i64 j ∧ Row wr w.heap.size 22 vs ∧ Hid (CopyMid wr w.heap.size n z j vs) ∧ Below w.heap.size w wr)
    case atStart => exact ⟨0, _, rfl, Nat.zero_le _, rfl, hrow1, Lib.hid ⟨⟨by simp, fun i hi => absurd hi (Nat.not_lt_zero _)⟩, fun i hi hn => by rw [List.getElem?_replicate, if_pos hn]⟩, hb1⟩
    case round =>
      obtain ⟨j, vs, hk, hj, rfl, hrow, HM, hbel⟩ := hrel
      have KK := Lib.hid hk; clear hk hrow1 hb1
      obtain ⟨wo, rfl⟩ : ∃ x, x = wr := ⟨_, rfl⟩
      by_cases hlt : j < n
      · rcases (HV.out.later strs_kept hbel).split with h | ⟨b, off, hab, hc⟩
        · exfalso; omega
        injection hab with hab
        subst hab
        obtain ⟨Ai, ni, ci, hcj, hsi⟩ := hc.out j hlt
        have hni := HIN.out j hlt
        rw [hsi.1] at hni
        have HLI := Lib.hid hsi.1
        have HSI := Lib.hid hsi
        have hi0 : (0 : Int) ≤ (j : Int) := by omega
        have hi1' : (j : Int) < (n : Int) := by omega
        cases Ai with
        | none =>
          have hq := fun W => run_neq_slice_nil (P := Try.prog) W 22 9 none ni ci Try.underlying22
          simp only [Option.isNone_none, Bool.not_true] at hq
          have hz : z.getD j [] = [] := by
            rcases hsi.2.2.2 with h | ⟨b, off, h, _⟩
            · exact h.2
            · cases h
          have HMN := Lib.hid (HM.out.skip hlt hz)
          clear hc hsi hz
          go_wp2_with fail
          go_roundg (n - (j + 1))
          case measure => rw [KK.out]; omega
          case rel => exact ⟨j + 1, vs, rfl, by omega, by go_num, hrow, HMN, hbel⟩
        | some ai =>
          have hq := fun W => run_neq_slice_nil (P := Try.prog) W 22 9 (some ai) ni ci Try.underlying22
          simp only [Option.isNone_some, Bool.not_false] at hq
          obtain ⟨zj, hzj⟩ : ∃ x, x = z.getD j [] := ⟨_, rfl⟩
          rw [← hzj] at HLI HSI
          have HZJ := Lib.hid hzj
          clear hc hsi hzj
          go_wp2_with (at_make; refine wpList_make_full _ rfl _ _ 22 rfl wo.heap.size 9 i1 _ 1 Try.underlying22 hi1 hy0 hy1 _ _ _ _ ni rfl rfl rfl rfl (by rw [hy2]; omega) (by unfold maxLen; omega) (Nat.le_refl _) ?_; intro w5 hown5 hg5)
          have e1 : (madeCells (Value.cells (Value.string ByteArray.empty)) (ni * 1)).toList = cloneMid zj 0 := by
            rw [Nat.mul_one]
            unfold cloneMid
            rw [HLI.out]
            rw [List.take_zero, List.map_nil, List.nil_append, Nat.sub_zero]
            exact toList_madeCells_one (.string ByteArray.empty) ni
          rw [e1] at hown5
          have hrow5 := Row.of_own hown5
          have hb5 : Below wo.heap.size wo w5 := (Below.refl _ _).grown hg5 (Nat.le_refl _) (fun _ h => by cases h)
          clear hown5 hg5 e1 hq
          go_loopg [6] ni (fun k i wx => ∃ l : Nat, k = ni - l ∧ l ≤ ni ∧ i = .int .i64 l ∧ Row wx wo.heap.size 9 (cloneMid zj l) ∧ Below wo.heap.size wo wx)
          case atStart => exact ⟨0, rfl, Nat.zero_le _, rfl, hrow5, hb5⟩
          case round =>
            obtain ⟨l, hk, hl, rfl, hrowI, hbelI⟩ := hrel
            have KI := Lib.hid hk; clear hk hrow5 hb5
            have hcj' := (hbelI.cell (p := ⟨b, off + j, none⟩) (World.block_lt_of_cell? _ _ hcj)).trans hcj
            by_cases hlt2 : l < ni
            · rcases (HSI.out.later hbelI).split with h | ⟨b2, off2, hab, hc⟩
              · exfalso; omega
              injection hab with hab
              subst hab
              have hcl := hc.out l hlt2
              obtain ⟨old, hold⟩ := cloneMid_at zj l l (by rw [HLI.out]; exact hlt2)
              have hco := hrowI.cell hold
              have fz := hrowI.frozen l
              have hset := hrowI.set l (.string (zj.getD l ByteArray.empty))
              rw [cloneMid_set zj l (by rw [HLI.out]; exact hlt2)] at hset
              generalize zj.getD l ByteArray.empty = sl at hcl hset
              clear hold hc
              have hl0 : (0 : Int) ≤ (l : Int) := by omega
              have hl1 : (l : Int) < (ni : Int) := by omega
              go_wp2_with fail
              go_roundg (ni - (l + 1))
              case measure => rw [KI.out]; omega
              case rel => exact ⟨l + 1, rfl, by omega, by go_num, hset, hbelI.setCell (p := ⟨wo.heap.size, l, none⟩) (Nat.le_refl _) _⟩
            · obtain rfl : ni = l := by omega
              have hS : Strs wr (some ⟨wo.heap.size, 0, none⟩) ni zj := by
                refine ⟨HLI.out, HSI.out.2.1, HSI.out.2.2.1, ?_⟩
                rcases Nat.eq_zero_or_pos ni with h | h
                · exact .inl ⟨h, List.eq_nil_of_length_eq_zero (by rw [HLI.out]; exact h)⟩
                · refine .inr ⟨wo.heap.size, 0, rfl, hrowI.lt, fun i hi => ?_⟩
                  rw [Nat.zero_add]
                  refine hrowI.cell ?_
                  have := cloneMid_full zj i (by rw [HLI.out]; exact hi)
                  rw [HLI.out] at this
                  exact this
              rw [HZJ.out] at hS
              obtain ⟨old, hold⟩ : ∃ u, vs[j]? = some u := ⟨vs[j]'(by rw [HM.out.1.1]; exact hlt), List.getElem?_eq_getElem _⟩
              have hrowO := hrow.later hbelI
              have hco := hrowO.cell hold
              have fz := hrowO.frozen j
              have hset := hrowO.set j (.slice (some ⟨wo.heap.size, 0, none⟩) ni ni)
              have HM5 : Hid (CopyMid (wr.setCell ⟨w.heap.size, j, none⟩ (.slice (some ⟨wo.heap.size, 0, none⟩) ni ni)) w.heap.size n z (j + 1) (vs.set j (.slice (some ⟨wo.heap.size, 0, none⟩) ni ni))) := HM.out.step hlt hbelI hrow.lt hS (fun a h => by injection h with h; subst h; exact Nat.le_refl _)
              have hbelO := below_next hbelI (w := w) (W := wo) hbel
              clear hold hS hrowI
              go_wp2_with fail
              go_roundg (n - (j + 1))
              case measure => rw [KK.out]; omega
              case rel => exact ⟨j + 1, _, rfl, by omega, by go_num, hset, HM5, hbelO.setCell (p := ⟨w.heap.size, j, none⟩) (Nat.le_refl _) _⟩
      · obtain rfl : n = j := by omega
        go_wp2_with fail
        go_ret
        exact ⟨some ⟨w.heap.size, 0, none⟩, n, rfl, HM.out.1.alts hrow HL.out HV.out.2.1, hbel, Lib.hid (fun a h => by injection h with h; subst h; exact Nat.le_refl _)⟩
end fnSubExprBalancedOneBarPerSeparator
end Go.Proofs.Ytjneojglklbbfaa
