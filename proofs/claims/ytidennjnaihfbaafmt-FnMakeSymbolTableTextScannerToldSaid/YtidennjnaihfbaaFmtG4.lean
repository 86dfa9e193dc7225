/-
  The walk of FnMakeSymbolTableTextScanner. Conditions: F answers the tape.
-/
import Derived.Test.YtidennjnaihfbaaFmtG2
namespace Go.Proofs.YtidennjnaihfbaaFmt
open Go.RowKit Go.Extern.Stop Go.Stop Go.Extern
set_option linter.unusedSimpArgs false
set_option linter.unusedVariables false
namespace fnMakeSymbolTableTextScanner
set_option maxRecDepth 100000 in
theorem zz (A1 : Option Addr) (n1 c1 : Nat) (z1 : List ByteArray) (w : World) (hv : Strs w A1 n1 z1) : Calls Tryf.prog 9 #[.slice A1 n1 c1] w (BoolAny w) := by
  have h1 := hv.2.1
  unfold maxLen at h1
  rcases hv.split with h0 | ⟨b, off, rfl, hc⟩
  all_goals
    go_enter Tryf.func9, Tryf.ntmps9
    go_wp2_with fail
    all_goals try (go_ret; exact ⟨_, rfl, rfl⟩)
    go_loopg [2, 3, 4] n1 (fun k u z i wr => ∃ j m : Nat, k = n1 - j ∧ j ≤ n1 ∧ m ≤ 1048576 ∧ z = .int .i64 m ∧ i = .int .i64 j ∧ wr = w ∧ u = .bool false)
    case atStart => exact ⟨0, n1, rfl, Nat.zero_le _, by omega, rfl, rfl, rfl, rfl⟩
    case round =>
      obtain ⟨j, m, hk, hj, hm, rfl, rfl, rfl, rfl⟩ := hrel
      have KK := Lib.hid hk; clear hk
      by_cases hlt : j < n1
      · first
          | (exfalso; omega)
          | (have hcj := hc.out j hlt
             have hsj := hv.size j
             generalize z1.getD j ByteArray.empty = sj at hcj hsj
             go_wp2_with fail
             all_goals first
               | (go_ret; exact ⟨_, rfl, rfl⟩)
               | (go_roundg (n1 - (j + 1))
                  case measure => rw [KK.out]; omega
                  case rel => exact ⟨j + 1, m + sj.size, rfl, by omega, by omega, by go_num, by go_num, rfl, rfl⟩))
      · go_wp2_with fail
        all_goals (go_ret; exact ⟨_, rfl, rfl⟩)
set_option maxHeartbeats 1000000 in
set_option maxRecDepth 100000 in
theorem copy (A : Option Addr) (n c : Nat) (z : List ByteArray) (w : World) (hv : Strs w A n z) (h1 : n ≤ 65536) : Calls Tryf.prog 11 #[.slice A n c] w (ClonePost w n z) := by
  obtain ⟨i0, hi, hz0, hz1, hz2⟩ := info_parts strInfo
  have HL := Lib.hid hv.1
  have HV := Lib.hid hv
  cases A with
  | none =>
    obtain rfl : n = 0 := by
      rcases hv.2.2.2 with h | ⟨b, off, h, _⟩
      · exact h.1
      · cases h
    have hz : z = [] := List.eq_nil_of_length_eq_zero hv.1
    clear hv
    have hq := fun W => Lib.run_eql_slice_nil (P := Tryf.prog) W 34 9 none 0 c 0 0 Tryf.underlying34
    simp only [Option.isNone_none] at hq
    go_enter Tryf.func11, Tryf.ntmps11
    go_wp2_with fail
    go_ret
    exact ⟨none, 0, rfl, ⟨HL.out, Nat.zero_le _, by rw [hz]; simp, .inl ⟨rfl, hz⟩⟩, Below.refl _ _⟩
  | some a =>
    have hq := fun W => Lib.run_eql_slice_nil (P := Tryf.prog) W 34 9 (some a) n c 0 0 Tryf.underlying34
    simp only [Option.isNone_some] at hq
    have hsp : n ≤ 0 ∨ ∃ b off, a = ⟨b, off, none⟩ ∧ Hid (∀ i, i < n → w.cell? ⟨b, off + i, none⟩ = some (.string (z.getD i ByteArray.empty))) := by
      rcases hv.split with h | ⟨b, off, h, hc⟩
      · exact .inl h
      · exact .inr ⟨b, off, by injection h, hc⟩
    clear hv
    rcases hsp with h0 | ⟨b0, o0, rfl, hc0⟩
    all_goals
      go_enter Tryf.func11, Tryf.ntmps11
      go_wp2_with (at_make; refine wpList_make_full _ rfl _ _ 34 rfl w.heap.size 9 i0 _ 1 Tryf.underlying34 hi hz0 hz1 _ _ _ _ n rfl rfl rfl rfl (by rw [hz2]; omega) (by unfold maxLen; omega) (Nat.le_refl _) ?_; intro w1 hown1 hg1)
      have e1 : (madeCells (Value.cells (Value.string ByteArray.empty)) (n * 1)).toList = cloneMid z 0 := by
        rw [Nat.mul_one]
        unfold cloneMid
        rw [HL.out]
        rw [List.take_zero, List.map_nil, List.nil_append, Nat.sub_zero]
        exact toList_madeCells_one (.string ByteArray.empty) n
      rw [e1] at hown1
      have hrow1 := Row.of_own hown1
      have hb1 : Below w.heap.size w w1 := (Below.refl _ _).grown hg1 (Nat.le_refl _) (fun _ h => by cases h)
      clear hown1 hg1 e1 hq
      go_loopg [4] n (fun k i wr => ∃ j : Nat, k = n - j ∧ j ≤ n ∧ i = .int .i64 j ∧ Row wr w.heap.size 9 (cloneMid z j) ∧ Below w.heap.size w wr)
      case atStart => exact ⟨0, rfl, Nat.zero_le _, rfl, hrow1, hb1⟩
      case round =>
        obtain ⟨j, hk, hj, rfl, hrow, hbel⟩ := hrel
        have KK := Lib.hid hk; clear hk
        by_cases hlt : j < n
        · first
            | (exfalso; omega)
            | (have hcj := (hbel.cell (p := ⟨b0, o0 + j, none⟩) (World.block_lt_of_cell? _ _ (hc0.out j hlt))).trans (hc0.out j hlt)
               obtain ⟨old, hold⟩ := cloneMid_at z j j (by rw [HL.out]; exact hlt)
               have hco := hrow.cell hold
               have fz := hrow.frozen j
               have hset := hrow.set j (.string (z.getD j ByteArray.empty))
               rw [cloneMid_set z j (by rw [HL.out]; exact hlt)] at hset
               generalize z.getD j ByteArray.empty = sj at hcj hset
               clear hold
               go_wp2_with fail
               go_roundg (n - (j + 1))
               case measure => rw [KK.out]; omega
               case rel => exact ⟨j + 1, rfl, by omega, by go_num, hset, hbel.setCell (p := ⟨w.heap.size, j, none⟩) (Nat.le_refl _) _⟩)
        · obtain rfl : n = j := by omega
          go_wp2_with fail
          go_ret
          refine ⟨some ⟨w.heap.size, 0, none⟩, n, rfl, ⟨HL.out, HV.out.2.1, HV.out.2.2.1, ?_⟩, hbel⟩
          rcases Nat.eq_zero_or_pos n with h | h
          · exact .inl ⟨h, List.eq_nil_of_length_eq_zero (by rw [HL.out]; exact h)⟩
          · refine .inr ⟨w.heap.size, 0, rfl, hrow.lt, fun i hi => ?_⟩
            rw [Nat.zero_add]
            refine hrow.cell ?_
            have := cloneMid_full z i (by rw [HL.out]; exact hi)
            rw [HL.out] at this
            exact this
set_option maxRecDepth 100000 in
theorem tb (A1 : Option Addr) (n1 c1 : Nat) (z1 : List ByteArray) (w : World) (hv : Strs w A1 n1 z1) : Calls Tryf.prog 10 #[.slice A1 n1 c1] w fun e w' => ∃ m : Int, e = .returned (.int .i64 m) ∧ w = w' := by
  have h1 := hv.2.1
  unfold maxLen at h1
  rcases hv.split with h0 | ⟨b, off, rfl, hc⟩
  all_goals
    go_enter Tryf.func10, Tryf.ntmps10
    go_wp2_with fail
    all_goals try (go_ret; exact ⟨_, rfl, rfl⟩)
    go_loopg [2, 3, 4] n1 (fun k u z i wr => ∃ (j : Nat) (m : Int), k = n1 - j ∧ j ≤ n1 ∧ z = .int .i64 m ∧ i = .int .i64 j ∧ wr = w ∧ u = .int .i64 0)
    case atStart => exact ⟨0, _, rfl, Nat.zero_le _, rfl, rfl, rfl, rfl⟩
    case round =>
      obtain ⟨j, m, hk, hj, rfl, rfl, rfl, rfl⟩ := hrel
      have KK := Lib.hid hk; clear hk
      by_cases hlt : j < n1
      · first
          | (exfalso; omega)
          | (have hcj := hc.out j hlt
             have hsj := hv.size j
             generalize z1.getD j ByteArray.empty = sj at hcj hsj
             go_wp2_with fail
             all_goals first
               | (go_ret; exact ⟨_, rfl, rfl⟩)
               | (go_roundg (n1 - (j + 1))
                  case measure => rw [KK.out]; omega
                  case rel => exact ⟨j + 1, _, rfl, by omega, rfl, by go_num, rfl, rfl⟩))
      · go_wp2_with fail
        all_goals (go_ret; exact ⟨_, rfl, rfl⟩)
/-- The eight marks. -/
def row8 (f : Nat → Bool) : Array Value := #[.bool (f 0), .bool (f 1), .bool (f 2), .bool (f 3), .bool (f 4), .bool (f 5), .bool (f 6), .bool (f 7)]
theorem row8_at (f : Nat → Bool) (i : Nat) (h : i < 8) : (row8 f)[i]? = some (.bool (f i)) := by
  match i, h with
  | 0, _ | 1, _ | 2, _ | 3, _ | 4, _ | 5, _ | 6, _ | 7, _ => rfl
theorem row8_set (f : Nat → Bool) (i : Nat) (h : i < 8) : (row8 f).setIfInBounds i (.bool true) = row8 (fun k => f k || k == i) := by
  match i, h with
  | 0, _ | 1, _ | 2, _ | 3, _ | 4, _ | 5, _ | 6, _ | 7, _ => simp [row8]
theorem row8_congr {f g : Nat → Bool} (h : ∀ i, i < 8 → f i = g i) : row8 f = row8 g := by
  unfold row8
  rw [h 0 (by omega), h 1 (by omega), h 2 (by omega), h 3 (by omega), h 4 (by omega), h 5 (by omega), h 6 (by omega), h 7 (by omega)]
/-- Has class i been met? -/
noncomputable def met (z : List ByteArray) (i : Nat) : Bool := z.any (fun s => decide (code s = -((i : Int) + 1)))
theorem met_snoc (z : List ByteArray) (j : Nat) (h : j < z.length) (i : Nat) : (met (z.take j) i || decide (code (z.getD j ByteArray.empty) = -((i : Int) + 1))) = met (z.take (j + 1)) i := by
  unfold met
  rw [PS.take_snoc z j h, List.any_append, List.any_cons, List.any_nil, Bool.or_false]
noncomputable def allK (z : List ByteArray) : Bool := z.all (fun s => decide (code s ≠ 0))
theorem allK_snoc (z : List ByteArray) (j : Nat) (h : j < z.length) : (allK (z.take j) && decide (code (z.getD j ByteArray.empty) ≠ 0)) = allK (z.take (j + 1)) := by
  unfold allK
  rw [PS.take_snoc z j h, List.all_append, List.all_cons, List.all_nil, Bool.and_true]
theorem allK_iff (z : List ByteArray) : allK z = true ↔ Known z := by
  unfold allK Known
  rw [List.all_eq_true]
  simp
theorem zero8 (w : World) : (zeroValue 38).run Tryf.prog w = .ok (.agg (row8 (fun _ => false))) w := by kernel_rfl
theorem tab_le (z : List ByteArray) : ∀ j, j ≤ z.length → Maps.size (tabD (z.take j)) ≤ j := by
  intro j
  induction j with
  | zero => intro _; exact Nat.le_refl _
  | succ j ih =>
    intro h
    rw [tab_size z j (by omega)]
    have := ih (by omega)
    split <;> omega
/-- What the loop over the names keeps. -/
structure Kept (w2 wr : World) (sb : Nat) (z : List ByteArray) (j : Nat) (d : Int) : Prop where
  blk : Blk wr sb 38 (row8 (met (z.take j)))
  bel : Below w2.heap.size w2 wr
  cnt : allK (z.take j) = true → d = Maps.size (tabD (z.take j))
set_option maxHeartbeats 2000000 in
set_option maxRecDepth 100000 in
theorem walk (F : Interp) (A1 : Option Addr) (n1 c1 : Nat) (z1 : List ByteArray) (w : World) (hF : F.answers w.tape) (hv : Strs w A1 n1 z1) :
    Calls Tryf.prog 4 #[.slice A1 n1 c1] w fun e w' => e = .returned (.bool true) ∧ Below w.heap.size w w' := by
  have HZ := Lib.hid (zz A1 n1 c1 z1 w hv)
  have HT := Lib.hid (tb A1 n1 c1 z1 w hv)
  have HC := Lib.hid (copy A1 n1 c1 z1 w hv)
  have HM := Lib.hid (mst_any F)
  have HFt := Lib.hid hF
  have HV := Lib.hid hv
  have hz8 := zero8
  have hmn : ∀ W : World, (binOp BinOp.eql 23 (.map none) (.map none)).run Tryf.prog W = .ok (.bool true) W := fun W => by kernel_rfl
  have hms : ∀ (b : Nat) (W : World), (binOp BinOp.eql 23 (.map (some b)) (.map none)).run Tryf.prog W = .ok (.bool false) W := fun b W => by kernel_rfl
  clear hF hv
  go_enter Tryf.func4, Tryf.ntmps4
  go_wp2_with fail
  refine HZ.out.mono ?_
  rintro e w' ⟨bz, rfl, rfl⟩
  go_wp2_with fail
  all_goals try (go_ret; exact ⟨rfl, Below.refl _ _⟩)
  refine HT.out.mono ?_
  rintro e w' ⟨m, rfl, rfl⟩
  go_wp2_with fail
  all_goals try (go_ret; exact ⟨rfl, Below.refl _ _⟩)
  have hn6 : n1 ≤ 65536 := by omega
  refine (HC.out hn6).mono ?_
  rintro e w1 ⟨A', c', rfl, hv1, hb1⟩
  go_wp2_with fail
  refine (new_any _).mono ?_
  rintro e wn ⟨p, rfl, hbn⟩
  have hbn' := below_next hbn hb1
  have hvn := hv1.later hbn
  have HL := Lib.hid hv1.1
  clear hv1 hb1 hbn
  go_wp2_with fail
  refine (HM.out p _ n1 c' z1 _ (by rw [hbn'.tape]; exact HFt.out) hvn hn6).mono ?_
  rintro e w2 ⟨hb2, hp⟩
  have hbw := below_next hb2 hbn'
  have hv2 := hvn.later hb2
  have hp' : ∃ m v, e = .returned (.tuple #[m, v]) ∧ ((Known z1 ∧ ∃ b, m = .map (some b) ∧ v = .nilIface ∧ wn.heap.size ≤ b ∧ TM w2 b n1 (tabD z1)) ∨ (¬ Known z1 ∧ m = .map none ∧ ∃ q, v = .iface 50 (.pointer (some ⟨q, 0, none⟩)))) := by
    rcases hp with ⟨hk, b, rfl, h1, h2⟩ | ⟨hk, q, rfl⟩
    · exact ⟨_, _, rfl, .inl ⟨hk, b, rfl, rfl, h1, h2⟩⟩
    · exact ⟨_, _, rfl, .inr ⟨hk, rfl, q, rfl⟩⟩
  clear hp
  obtain ⟨mv, ev, rfl, hp⟩ := hp'
  have HP := Lib.hid hp
  have HBW := Lib.hid hbw
  have HV2 := Lib.hid hv2
  clear hp hbw hv2 hb2 hvn hbn'
  have hk0 : Kept w2 (w2.alloc (.cells (row8 (fun _ => false)) 38)) w2.heap.size z1 0 0 := ⟨Blk.new _ _ _, (Below.refl _ _).alloc (Nat.le_refl _) _, fun _ => rfl⟩
  go_wp2_with fail
  go_loopg [6, 8, 9] n1 (fun k kn ds i wr => ∃ (j : Nat) (d : Int), k = n1 - j ∧ j ≤ n1 ∧ i = .int .i64 j ∧ kn = .bool (allK (z1.take j)) ∧ ds = .int .i64 d ∧ Kept w2 wr w2.heap.size z1 j d)
  case atStart => exact ⟨0, 0, rfl, Nat.zero_le _, rfl, rfl, rfl, hk0⟩
  case round =>
    obtain ⟨j, d, hk, hj, rfl, rfl, rfl, hkp⟩ := hrel
    have KK := Lib.hid hk; clear hk
    have hvr := HV2.out.later hkp.bel
    by_cases hlt : j < n1
    · rcases hvr.split with g0 | ⟨b2, off2, rfl, hc2⟩
      · exfalso; omega
      · have hcj := hc2.out j hlt
        have hsc := fun W => sc_any (z1.getD j ByteArray.empty) W
        have hak := allK_snoc z1 j (by rw [HL.out]; exact hlt)
        have hme := fun i => met_snoc z1 j (by rw [HL.out]; exact hlt) i
        have htz := tab_size z1 j (by rw [HL.out]; exact hlt)
        have hcr := code_range (z1.getD j ByteArray.empty)
        generalize z1.getD j ByteArray.empty = sj at hcj hsc hak hme htz hcr
        have HAK := Lib.hid hak
        have HME := Lib.hid hme
        have HTZ := Lib.hid htz
        clear hak hme htz hc2 hvr
        by_cases hc : code sj = 0
        · rw [hc] at hsc
          have HSC := Lib.hid hsc
          have HCC := Lib.hid hc
          have HKP := Lib.hid hkp
          clear hsc hcr hc hkp
          go_wp2_with fail
          refine (HSC.out _).mono ?_
          rintro e w5 ⟨rfl, rfl⟩
          go_wp2_with fail
          have hk' : Kept w2 wr w2.heap.size z1 (j + 1) d := by
            have hfal : allK (z1.take (j + 1)) = false := by rw [← HAK.out, HCC.out]; simp
            refine ⟨?_, HKP.out.bel, fun h => by rw [hfal] at h; cases h⟩
            have := HKP.out.blk
            rwa [row8_congr (g := met (z1.take (j + 1))) (fun i hi => by rw [← HME.out i, HCC.out, decide_eq_false (by omega), Bool.or_false])] at this
          have hfal : allK (z1.take (j + 1)) = false := by rw [← HAK.out, HCC.out]; simp
          go_roundg (n1 - (j + 1))
          case measure => rw [KK.out]; omega
          case rel => exact ⟨j + 1, d, rfl, by omega, by go_num, by rw [hfal], rfl, hk'⟩
        · obtain ⟨i, hi, hci⟩ : ∃ i : Nat, i < 8 ∧ code sj = -((i : Int) + 1) := ⟨(-(code sj) - 1).toNat, by omega, by omega⟩
          rw [hci] at hsc
          have HSC := Lib.hid hsc
          have HCI := Lib.hid hci
          have HKP := Lib.hid hkp
          have hak1 : allK (z1.take (j + 1)) = allK (z1.take j) := by rw [← HAK.out, decide_eq_true hc, Bool.and_true]
          have hcell := hkp.blk.cell i
          rw [row8_at _ i hi] at hcell
          have hfz := hkp.blk.frozen i
          have hgen : Hid (∀ x, x = met (z1.take j) i → x = met (z1.take j) i) := Lib.hid (fun x h => h)
          clear hsc hcr hc hci hkp
          cases hmt : met (z1.take j) i with
          | true =>
            rw [hmt] at hcell
            have HMT := Lib.hid hmt; clear hmt
            go_wp2_with fail
            refine (HSC.out _).mono ?_
            rintro e w5 ⟨rfl, rfl⟩
            go_wp2_with fail
            have hk' : Kept w2 wr w2.heap.size z1 (j + 1) d := by
              refine ⟨?_, HKP.out.bel, fun h => ?_⟩
              · have := HKP.out.blk
                rwa [row8_congr (g := met (z1.take (j + 1))) (fun k hk => by
                  rw [← HME.out k, HCI.out]
                  by_cases hki : k = i
                  · rw [hki, HMT.out]; rfl
                  · rw [decide_eq_false (by omega), Bool.or_false])] at this
              · rw [hak1] at h
                rw [HKP.out.cnt h, HTZ.out, HCI.out, show ((z1.take j).any fun s => decide (code s = -((i : Int) + 1))) = true from HMT.out]
                rfl
            go_roundg (n1 - (j + 1))
            case measure => rw [KK.out]; omega
            case rel => exact ⟨j + 1, d, rfl, by omega, by go_num, by rw [hak1], rfl, hk'⟩
          | false =>
            rw [hmt] at hcell
            have HMT := Lib.hid hmt; clear hmt
            have hset := HKP.out.blk.set i (.bool true)
            rw [row8_set _ i hi] at hset
            have hbel := HKP.out.bel.setCell (p := ⟨w2.heap.size, i, none⟩) (Nat.le_refl _) (.bool true)
            go_wp2_with fail
            refine (HSC.out _).mono ?_
            rintro e w5 ⟨rfl, rfl⟩
            go_wp2_with fail
            have hk' : Kept w2 (wr.setCell ⟨w2.heap.size, i, none⟩ (.bool true)) w2.heap.size z1 (j + 1) (wrap64 (d + 1)) := by
              refine ⟨?_, hbel, fun h => ?_⟩
              · have := hset
                rwa [row8_congr (g := met (z1.take (j + 1))) (fun k hk => by
                  rw [← HME.out k, HCI.out]
                  by_cases hki : k = i
                  · rw [hki]; simp
                  · rw [decide_eq_false (by omega), show (k == i) = false from by simpa using hki])] at this
              · rw [hak1] at h
                have h1 := HKP.out.cnt h
                have h2 := tab_le z1 j (by rw [HL.out]; omega)
                rw [HTZ.out, HCI.out, show ((z1.take j).any fun s => decide (code s = -((i : Int) + 1))) = false from HMT.out, h1]
                have hw : wrap64 ((Maps.size (tabD (z1.take j)) : Int) + 1) = (Maps.size (tabD (z1.take j)) : Int) + 1 := by unfold wrap64; omega
                rw [hw]
                rfl
            go_roundg (n1 - (j + 1))
            case measure => rw [KK.out]; omega
            case rel => exact ⟨j + 1, _, rfl, by omega, by go_num, by rw [hak1], rfl, hk'⟩
    · obtain rfl : n1 = j := by omega
      have hdl : decide (n1 < n1) = false := by simp
      have HKP := Lib.hid hkp
      have e0 : z1.take n1 = z1 := List.take_of_length_le (by rw [HL.out]; omega)
      rw [e0]
      have hbw2 := below_next hkp.bel HBW.out
      have hcn := hkp.cnt
      rw [e0] at hcn
      clear hkp
      rcases HP.out with ⟨hkn, b, rfl, rfl, hbb, htm⟩ | ⟨hkn, rfl, q, rfl⟩
      · have hal := (allK_iff z1).2 hkn
        rw [hal]
        obtain rfl := hcn hal
        have htm2 : TM wr b n1 (tabD z1) := World.ownsMap.kept htm (grown_of_below HKP.out.bel none) (by simp)
        have hl1 := tab_len 3 htm2
        have HTM := Lib.hid htm2
        have HKN := Lib.hid hkn
        clear htm htm2 hkn hcn hal
        go_wp2_with fail
        obtain ⟨wp, rfl⟩ : ∃ x, x = wr := ⟨_, rfl⟩
        have hvp := Lib.hid (HV2.out.later HKP.out.bel)
        clear hl1
        go_loopg [12] n1 (fun k i wr => ∃ j : Nat, k = n1 - j ∧ j ≤ n1 ∧ i = .int .i64 j ∧ wr = wp)
        case atStart => exact ⟨0, rfl, Nat.zero_le _, rfl, rfl⟩
        case round =>
          obtain ⟨j, hk, hj, rfl, rfl⟩ := hrel
          have KK2 := Lib.hid hk; clear hk
          by_cases hlt : j < n1
          · rcases hvp.out.split with g0 | ⟨b2, off2, rfl, hc2⟩
            · exfalso; omega
            · have hcj := hc2.out j hlt
              have hsc := fun W => sc_any (z1.getD j ByteArray.empty) W
              have hlk := tab_run HTM.out (code_wf (z1.getD j ByteArray.empty))
              rw [show (z1.any fun s => decide (code s = code (z1.getD j ByteArray.empty))) = true from List.any_eq_true.2 ⟨z1.getD j ByteArray.empty, by rw [List.getD_eq_getElem?_getD, List.getElem?_eq_getElem (by rw [HL.out]; exact hlt)]; exact List.getElem_mem _, by simp⟩] at hlk
              generalize z1.getD j ByteArray.empty = sj at hcj hsc hlk
              generalize code sj = cj at hsc hlk
              have HSC := Lib.hid hsc
              clear hsc hc2
              go_wp2_with fail
              refine (HSC.out _).mono ?_
              rintro e w5 ⟨rfl, rfl⟩
              go_wp2_with fail
              go_roundg (n1 - (j + 1))
              case measure => rw [KK2.out]; omega
              case rel => exact ⟨j + 1, rfl, by omega, by go_num, rfl⟩
          · obtain rfl : n1 = j := by omega
            have hdl2 : decide (n1 < n1) = false := by simp
            go_wp2_with fail
            go_ret
            exact ⟨rfl, hbw2⟩
      · have hal : allK z1 = false := by
          cases h : allK z1 with
          | true => exact absurd ((allK_iff z1).1 h) hkn
          | false => rfl
        rw [hal]
        clear hcn
        go_wp2_with fail
        go_ret
        exact ⟨rfl, hbw2⟩
end fnMakeSymbolTableTextScanner
end Go.Proofs.YtidennjnaihfbaaFmt
