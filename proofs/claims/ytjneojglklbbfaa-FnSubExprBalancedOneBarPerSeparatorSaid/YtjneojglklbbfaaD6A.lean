/-
  Contracts of the small helpers of n025_6 that read strings: the repetition's text and code, a byte in a string, plain names, splitting at a byte. Conditions: sizes as stated.
-/
import Derived.Test.YtjneojglklbbfaaClone
import Derived.OpenShut
import Derived.Test.YtjneojglklbbfaaSpl2
namespace Go.Proofs.Ytjneojglklbbfaa
open Go.RowKit
set_option linter.unusedSimpArgs false
set_option linter.unusedVariables false
namespace PS
def hasB (s : ByteArray) (x : UInt8) : Bool := decide (x ∈ s.data.toList)
def repT (r : Int) : ByteArray := if r % 5 = 1 then ⟨#[42]⟩ else if r % 5 = 2 then ⟨#[43]⟩ else if r % 5 = 3 then ⟨#[63]⟩ else if r % 5 = 4 then ⟨#[33]⟩ else ⟨#[]⟩
def repC (b : Int) : Int := if b = 42 then 1 else if b = 43 then 2 else if b = 63 then 3 else if b = 33 then 4 else 0
theorem take_snoc8 (s : ByteArray) (k : Nat) (h : k < s.size) : s.data.toList.take (k + 1) = s.data.toList.take k ++ [s[k]] := by
  rw [List.take_succ_eq_append_getElem (by simpa using h)]; rfl
theorem repT_size (r : Int) : (repT r).size ≤ 1 := by
  unfold repT
  repeat' split
  all_goals decide
theorem u8_int (a b : UInt8) : ((a.toNat : Int) == (b.toNat : Int)) = decide (a = b) := by
  rw [Bool.eq_iff_iff]; simp only [beq_iff_eq, decide_eq_true_eq]
  constructor
  · intro h; exact UInt8.toNat_inj.1 (by omega)
  · intro h; rw [h]
end PS
theorem repCode_any (x : Int) (w : World) : Calls Try.prog 46 #[.int .u8 x] w fun e w' => e = .returned (.int .u8 (PS.repC x)) ∧ w = w' := by
  rcases (show x = 42 ∨ x = 43 ∨ x = 63 ∨ x = 33 ∨ ¬ (x = 42 ∨ x = 43 ∨ x = 63 ∨ x = 33) by omega) with rfl | rfl | rfl | rfl | h
  · go_enter Try.func46, Try.ntmps46
    go_wp2_with fail
    go_ret
    exact ⟨rfl, rfl⟩
  · go_enter Try.func46, Try.ntmps46
    go_wp2_with fail
    go_ret
    exact ⟨rfl, rfl⟩
  · go_enter Try.func46, Try.ntmps46
    go_wp2_with fail
    go_ret
    exact ⟨rfl, rfl⟩
  · go_enter Try.func46, Try.ntmps46
    go_wp2_with fail
    go_ret
    exact ⟨rfl, rfl⟩
  · have h1 : (x == 42) = false := by simp; omega
    have h2 : (x == 43) = false := by simp; omega
    have h3 : (x == 63) = false := by simp; omega
    have h4 : (x == 33) = false := by simp; omega
    have hr : PS.repC x = 0 := by unfold PS.repC; rw [if_neg (by omega), if_neg (by omega), if_neg (by omega), if_neg (by omega)]
    rw [hr]
    clear h hr
    go_enter Try.func46, Try.ntmps46
    go_wp2_with fail
    go_ret
    exact ⟨rfl, rfl⟩
theorem rep_any (x : Int) (w : World) (h0 : 0 ≤ x) (h1 : x ≤ 255) : Calls Try.prog 37 #[.int .u8 x] w fun e w' => e = .returned (.string (PS.repT x)) ∧ w = w' := by
  have ht : x.tmod 5 = x % 5 := Int.tmod_eq_emod_of_nonneg h0
  obtain ⟨m, hm⟩ : ∃ m, m = x % 5 := ⟨_, rfl⟩
  unfold PS.repT
  rw [← hm] at ht ⊢
  rcases (show m = 0 ∨ m = 1 ∨ m = 2 ∨ m = 3 ∨ m = 4 by omega) with rfl | rfl | rfl | rfl | rfl
  all_goals
    clear hm
    go_enter Try.func37, Try.ntmps37
    go_wp2_with fail
    go_ret
    exact ⟨rfl, rfl⟩
/-- The repetition of term i, 0 where none is given. -/
def repAt (z : List Int) (i : Nat) : Int := z.getD i 0
theorem repAt_wf {w : World} {A : Option Addr} {n : Nat} {z : List Int} (h : Ints .u8 w A n z) (i : Nat) : 0 ≤ repAt z i ∧ repAt z i ≤ 255 := by
  unfold repAt
  rcases Nat.lt_or_ge i n with hi | hi
  · have := h.wf hi
    exact bounds_u8 this
  · rw [List.getD_eq_getElem?_getD, List.getElem?_eq_none (by rw [h.1]; exact hi)]; simp
theorem repAt_any (A : Option Addr) (n c : Nat) (z : List Int) (i : Nat) (w : World) (hv : Ints .u8 w A n z) (hi : i ≤ 1048576) (hn : n ≤ 1048576) :
    Calls Try.prog 44 #[.slice A n c, .int .i64 i] w fun e w' => e = .returned (.int .u8 (repAt z i)) ∧ w = w' := by
  by_cases hlt : i < n
  · rcases hv.split with h | ⟨b, off, rfl, hc⟩
    · exfalso; omega
    have hci := hc.out i hlt
    have e : repAt z i = z.getD i 0 := rfl
    rw [e]
    clear hc e
    have h0 : (0 : Int) ≤ (i : Int) := by omega
    have h1 : (i : Int) < (n : Int) := by omega
    generalize z.getD i 0 = y at hci ⊢
    go_enter Try.func44, Try.ntmps44
    go_wp2_with fail
    go_ret
    exact ⟨rfl, rfl⟩
  · have e : repAt z i = 0 := by unfold repAt; rw [List.getD_eq_getElem?_getD, List.getElem?_eq_none (by rw [hv.1]; omega)]; rfl
    rw [e]
    clear e
    have h1 : ¬ (i : Int) < (n : Int) := by omega
    go_enter Try.func44, Try.ntmps44
    go_wp2_with fail
    go_ret
    exact ⟨rfl, rfl⟩
theorem hasByte_any (s : ByteArray) (x : UInt8) (v : Int) (hv : (x.toNat : Int) = v) (w : World) (hs : s.size ≤ 9223372036854775807) :
    Calls Try.prog 52 #[.string s, .int .u8 v] w fun e w' => e = .returned (.bool (PS.hasB s x)) ∧ w = w' := by
  have HV := Lib.hid hv; clear hv
  go_enter Try.func52, Try.ntmps52
  go_wp2_with fail
  go_loop [5] (fun i => ∃ k : Nat, k ≤ s.size ∧ i = .int .i64 k ∧ Hid (x ∉ s.data.toList.take k)) (fun i => s.size - (intOf i).toNat)
  case atStart => exact ⟨0, Nat.zero_le _, rfl, Lib.hid (by simp)⟩
  case round =>
    obtain ⟨k, hk, rfl, hno⟩ := hrel
    by_cases hlt : k < s.size
    · have h0 : (0 : Int) ≤ (k : Int) := by omega
      have h1 : (k : Int) < (s.size : Int) := by omega
      by_cases he : s[k] = x
      · have ht : ((s[k].toNat : Int) == v) = true := by rw [← HV.out, PS.u8_int, he]; simp
        have hr : PS.hasB s x = true := by unfold PS.hasB; rw [decide_eq_true_eq, ← he, ← PS.get_list s k hlt]; exact List.getElem_mem _
        have HR := Lib.hid hr
        clear he hr
        go_wp2_with fail
        go_ret
        exact ⟨by rw [HR.out]; rfl, rfl⟩
      · have ht : ((s[k].toNat : Int) == v) = false := by rw [← HV.out, PS.u8_int]; simpa using he
        have hn : Hid (x ∉ s.data.toList.take (k + 1)) := by
          have e := PS.take_snoc8 s k hlt
          have h := hno.out
          show x ∉ _
          rw [e]
          simp only [List.mem_append, List.mem_singleton, not_or]
          exact ⟨h, fun e => he e.symm⟩
        clear he
        go_wp2_with fail
        go_round
        case rel => exact ⟨k + 1, by omega, by go_num, hn⟩
        case measure => simp [intOf]; omega
    · have hr : PS.hasB s x = false := by
        unfold PS.hasB
        rw [decide_eq_false_iff_not]
        have h := hno.out
        rw [List.take_of_length_le (by simp; omega)] at h
        exact h
      have HR := Lib.hid hr
      clear hr
      go_wp2_with fail
      go_ret
      exact ⟨by rw [HR.out]; rfl, rfl⟩
/-- A plain name: not empty, no space, its last byte no mark. -/
def plainB (s : ByteArray) : Bool := if h : 0 < s.size then !PS.hasB s 32 && (PS.repC (s[s.size - 1].toNat : Int) == 0) else false
theorem toList_empty (s : ByteArray) : s.toList.isEmpty = decide (s.size = 0) := by
  rw [ByteArray.toList_eq, Bool.eq_iff_iff, List.isEmpty_iff, decide_eq_true_eq, ← List.length_eq_zero_iff]
  simp
theorem plain_any (s : ByteArray) (w : World) (hs : s.size ≤ 9223372036854775807) :
    Calls Try.prog 42 #[.string s] w fun e w' => e = .returned (.bool (plainB s)) ∧ w = w' := by
  by_cases h0 : 0 < s.size
  · have he : s.toList.isEmpty = false := by rw [toList_empty, decide_eq_false_iff_not]; omega
    have hr : plainB s = (!PS.hasB s 32 && (PS.repC (s[s.size - 1].toNat : Int) == 0)) := by unfold plainB; rw [dif_pos h0]
    rw [hr]
    clear hr
    have h1 : (0 : Int) ≤ (s.size : Int) - 1 := by omega
    have h2 : (s.size : Int) - 1 < (s.size : Int) := by omega
    have h3 : ((s.size : Int) - 1).toNat = s.size - 1 := by omega
    cases hh : PS.hasB s 32
    · go_enter Try.func42, Try.ntmps42
      go_wp2_with (first | (go_at_call 52; refine (hasByte_any s 32 32 rfl w hs).mono ?_; rintro e w' ⟨rfl, rfl⟩) | (go_at_call 46; refine (repCode_any _ w).mono ?_; rintro e w' ⟨rfl, rfl⟩))
      go_ret
      exact ⟨by simp [h3], rfl⟩
    · go_enter Try.func42, Try.ntmps42
      go_wp2_with (first | (go_at_call 52; refine (hasByte_any s 32 32 rfl w hs).mono ?_; rintro e w' ⟨rfl, rfl⟩))
      go_ret
      exact ⟨rfl, rfl⟩
  · have he : s.toList.isEmpty = true := by rw [toList_empty, decide_eq_true_eq]; omega
    have hr : plainB s = false := by unfold plainB; rw [dif_neg h0]
    rw [hr]
    clear hr
    go_enter Try.func42, Try.ntmps42
    go_wp2_with fail
    go_ret
    exact ⟨rfl, rfl⟩
set_option maxHeartbeats 1000000 in
set_option maxRecDepth 100000 in
theorem cloneStrs_any (A : Option Addr) (n c : Nat) (z : List ByteArray) (w : World) (hv : Strs w A n z) (h1 : n ≤ 65536) : Calls Try.prog 43 #[.slice A n c] w (ClonePost w n z) := by
  obtain ⟨i0, hi, hz0, hz1, hz2⟩ := info_parts strInfo
  have HL := Lib.hid hv.1
  have HV := Lib.hid hv
  cases A with
  | none =>
    obtain rfl : n = 0 := by
      rcases hv.2.2.2 with h | ⟨b, off, h, _⟩
      · exact h.1
      · cases h
    have hz : z = [] := List.eq_nil_of_length_eq_zero hv.1
    clear hv
    have hq := fun W => Lib.run_eql_slice_nil (P := Try.prog) W 22 9 none 0 c 0 0 Try.underlying22
    simp only [Option.isNone_none] at hq
    go_enter Try.func43, Try.ntmps43
    go_wp2_with fail
    go_ret
    exact ⟨none, 0, rfl, ⟨HL.out, Nat.zero_le _, by rw [hz]; simp, .inl ⟨rfl, hz⟩⟩, Below.refl _ _⟩
  | some a =>
    have hq := fun W => Lib.run_eql_slice_nil (P := Try.prog) W 22 9 (some a) n c 0 0 Try.underlying22
    simp only [Option.isNone_some] at hq
    have hsp : n ≤ 0 ∨ ∃ b off, a = ⟨b, off, none⟩ ∧ Hid (∀ i, i < n → w.cell? ⟨b, off + i, none⟩ = some (.string (z.getD i ByteArray.empty))) := by
      rcases hv.split with h | ⟨b, off, h, hc⟩
      · exact .inl h
      · exact .inr ⟨b, off, by injection h, hc⟩
    clear hv
    rcases hsp with h0 | ⟨b0, o0, rfl, hc0⟩
    all_goals
      go_enter Try.func43, Try.ntmps43
      go_wp2_with (at_make; refine wpList_make_full _ rfl _ _ 22 rfl w.heap.size 9 i0 _ 1 Try.underlying22 hi hz0 hz1 _ _ _ _ n rfl rfl rfl rfl (by rw [hz2]; omega) (by unfold maxLen; omega) (Nat.le_refl _) ?_; intro w1 hown1 hg1)
      have e1 : (madeCells (Value.cells (Value.string ByteArray.empty)) (n * 1)).toList = cloneMid z 0 := by
        rw [Nat.mul_one]
        unfold cloneMid
        rw [HL.out]
        rw [List.take_zero, List.map_nil, List.nil_append, Nat.sub_zero]
        exact toList_madeCells_one (.string ByteArray.empty) n
      rw [e1] at hown1
      have hrow1 := Row.of_own hown1
      have hb1 : Below w.heap.size w w1 := (Below.refl _ _).grown hg1 (Nat.le_refl _) (fun _ h => by cases h)
      clear hown1 hg1 e1 hq
      go_loopg [4] n (fun k i wr => ∃ j : Nat, k = n - j ∧ j ≤ n ∧ i = .int .i64 j ∧ Row wr w.heap.size 9 (cloneMid z j) ∧ Below w.heap.size w wr)
      case atStart => exact ⟨0, rfl, Nat.zero_le _, rfl, hrow1, hb1⟩
      case round =>
        obtain ⟨j, hk, hj, rfl, hrow, hbel⟩ := hrel
        have KK := Lib.hid hk; clear hk
        by_cases hlt : j < n
        · first
            | (exfalso; omega)
            | (have hcj := (hbel.cell (p := ⟨b0, o0 + j, none⟩) (World.block_lt_of_cell? _ _ (hc0.out j hlt))).trans (hc0.out j hlt)
               obtain ⟨old, hold⟩ := cloneMid_at z j j (by rw [HL.out]; exact hlt)
               have hco := hrow.cell hold
               have fz := hrow.frozen j
               have hset := hrow.set j (.string (z.getD j ByteArray.empty))
               rw [cloneMid_set z j (by rw [HL.out]; exact hlt)] at hset
               generalize z.getD j ByteArray.empty = sj at hcj hset
               clear hold
               go_wp2_with fail
               go_roundg (n - (j + 1))
               case measure => rw [KK.out]; omega
               case rel => exact ⟨j + 1, rfl, by omega, by go_num, hset, hbel.setCell (p := ⟨w.heap.size, j, none⟩) (Nat.le_refl _) _⟩)
        · obtain rfl : n = j := by omega
          go_wp2_with fail
          go_ret
          refine ⟨some ⟨w.heap.size, 0, none⟩, n, rfl, ⟨HL.out, HV.out.2.1, HV.out.2.2.1, ?_⟩, hbel⟩
          rcases Nat.eq_zero_or_pos n with h | h
          · exact .inl ⟨h, List.eq_nil_of_length_eq_zero (by rw [HL.out]; exact h)⟩
          · refine .inr ⟨w.heap.size, 0, rfl, hrow.lt, fun i hi => ?_⟩
            rw [Nat.zero_add]
            refine hrow.cell ?_
            have := cloneMid_full z i (by rw [HL.out]; exact hi)
            rw [HL.out] at this
            exact this
theorem u8Info : (Try.prog.info? 5).map (fun i => (i.zero, i.size, i.bytes)) = some (some (Value.int .u8 0), 1, 1) := by kernel_rfl
/-- A slice in new memory that reads as the numbers zs. -/
def ClonePostI (w : World) (n : Nat) (zs : List Int) (e : Ending) (w' : World) : Prop := ∃ A' c', e = .returned (.slice A' n c') ∧ Ints .u8 w' A' n zs ∧ Below w.heap.size w w'
def cloneMidI (zs : List Int) (j : Nat) : List Value := (zs.take j).map (Value.int .u8) ++ List.replicate (zs.length - j) (Value.int .u8 0)
theorem take_snocI (xs : List Int) (i : Nat) (h : i < xs.length) : xs.take (i + 1) = xs.take i ++ [xs.getD i 0] := by
  rw [List.take_succ_eq_append_getElem h, List.getD_eq_getElem?_getD, List.getElem?_eq_getElem h]; rfl
theorem cloneMidI_set (zs : List Int) (j : Nat) (h : j < zs.length) : (cloneMidI zs j).set j (.int .u8 (zs.getD j 0)) = cloneMidI zs (j + 1) := by
  unfold cloneMidI
  rw [List.set_append_right _ _ (by simp; omega), take_snocI zs j h]
  have e : j - ((zs.take j).map (Value.int .u8)).length = 0 := by simp; omega
  rw [e, show zs.length - j = (zs.length - (j + 1)) + 1 by omega, List.replicate_succ, List.set_cons_zero]
  simp
theorem cloneMidI_at (zs : List Int) (j i : Nat) (h : i < zs.length) : ∃ s, (cloneMidI zs j)[i]? = some (.int .u8 s) := by
  unfold cloneMidI
  rcases Nat.lt_or_ge i j with g | g
  · exact ⟨zs.getD i 0, by rw [List.getElem?_append_left (by simp; omega)]; simp [List.getElem?_take, g, List.getElem?_eq_getElem h]⟩
  · exact ⟨0, by rw [List.getElem?_append_right (by simp; omega), List.getElem?_replicate, if_pos (by simp; omega)]⟩
theorem cloneMidI_full (zs : List Int) (i : Nat) (h : i < zs.length) : (cloneMidI zs zs.length)[i]? = some (.int .u8 (zs.getD i 0)) := by
  unfold cloneMidI
  rw [List.getElem?_append_left (by simp; omega)]
  simp [List.getElem?_eq_getElem h]
set_option maxHeartbeats 1000000 in
set_option maxRecDepth 100000 in
theorem cloneBytes_any (A : Option Addr) (n c : Nat) (z : List Int) (w : World) (hv : Ints .u8 w A n z) (h1 : n ≤ 65536) : Calls Try.prog 34 #[.slice A n c] w (ClonePostI w n z) := by
  obtain ⟨i0, hi, hz0, hz1, hz2⟩ := info_parts u8Info
  have HL := Lib.hid hv.1
  have HV := Lib.hid hv
  cases A with
  | none =>
    obtain rfl : n = 0 := by
      rcases hv.2.2.2 with h | ⟨b, off, h, _⟩
      · exact h.1
      · cases h
    have hz : z = [] := List.eq_nil_of_length_eq_zero hv.1
    clear hv
    have hq := fun W => Lib.run_eql_slice_nil (P := Try.prog) W 45 5 none 0 c 0 0 Try.underlying45
    simp only [Option.isNone_none] at hq
    go_enter Try.func34, Try.ntmps34
    go_wp2_with fail
    go_ret
    exact ⟨none, 0, rfl, ⟨HL.out, Nat.zero_le _, by rw [hz]; simp, .inl ⟨rfl, hz⟩⟩, Below.refl _ _⟩
  | some a =>
    have hq := fun W => Lib.run_eql_slice_nil (P := Try.prog) W 45 5 (some a) n c 0 0 Try.underlying45
    simp only [Option.isNone_some] at hq
    have hsp : n ≤ 0 ∨ ∃ b off, a = ⟨b, off, none⟩ ∧ Hid (∀ i, i < n → w.cell? ⟨b, off + i, none⟩ = some (.int .u8 (z.getD i 0))) := by
      rcases hv.split with h | ⟨b, off, h, hc⟩
      · exact .inl h
      · exact .inr ⟨b, off, by injection h, hc⟩
    clear hv
    rcases hsp with h0 | ⟨b0, o0, rfl, hc0⟩
    all_goals
      go_enter Try.func34, Try.ntmps34
      go_wp2_with (at_make; refine wpList_make_full _ rfl _ _ 45 rfl w.heap.size 5 i0 _ 1 Try.underlying45 hi hz0 hz1 _ _ _ _ n rfl rfl rfl rfl (by rw [hz2]; omega) (by unfold maxLen; omega) (Nat.le_refl _) ?_; intro w1 hown1 hg1)
      have e1 : (madeCells (Value.cells (Value.int .u8 0)) (n * 1)).toList = cloneMidI z 0 := by
        rw [Nat.mul_one]
        unfold cloneMidI
        rw [HL.out]
        rw [List.take_zero, List.map_nil, List.nil_append, Nat.sub_zero]
        exact toList_madeCells_one (.int .u8 0) n
      rw [e1] at hown1
      have hrow1 := Row.of_own hown1
      have hb1 : Below w.heap.size w w1 := (Below.refl _ _).grown hg1 (Nat.le_refl _) (fun _ h => by cases h)
      clear hown1 hg1 e1 hq
      go_loopg [4] n (fun k i wr => ∃ j : Nat, k = n - j ∧ j ≤ n ∧ i = .int .i64 j ∧ Row wr w.heap.size 5 (cloneMidI z j) ∧ Below w.heap.size w wr)
      case atStart => exact ⟨0, rfl, Nat.zero_le _, rfl, hrow1, hb1⟩
      case round =>
        obtain ⟨j, hk, hj, rfl, hrow, hbel⟩ := hrel
        have KK := Lib.hid hk; clear hk
        by_cases hlt : j < n
        · first
            | (exfalso; omega)
            | (have hcj := (hbel.cell (p := ⟨b0, o0 + j, none⟩) (World.block_lt_of_cell? _ _ (hc0.out j hlt))).trans (hc0.out j hlt)
               obtain ⟨old, hold⟩ := cloneMidI_at z j j (by rw [HL.out]; exact hlt)
               have hco := hrow.cell hold
               have fz := hrow.frozen j
               have hset := hrow.set j (.int .u8 (z.getD j 0))
               rw [cloneMidI_set z j (by rw [HL.out]; exact hlt)] at hset
               generalize z.getD j 0 = sj at hcj hset
               clear hold
               go_wp2_with fail
               go_roundg (n - (j + 1))
               case measure => rw [KK.out]; omega
               case rel => exact ⟨j + 1, rfl, by omega, by go_num, hset, hbel.setCell (p := ⟨w.heap.size, j, none⟩) (Nat.le_refl _) _⟩)
        · obtain rfl : n = j := by omega
          go_wp2_with fail
          go_ret
          refine ⟨some ⟨w.heap.size, 0, none⟩, n, rfl, ⟨HL.out, HV.out.2.1, HV.out.2.2.1, ?_⟩, hbel⟩
          rcases Nat.eq_zero_or_pos n with h | h
          · exact .inl ⟨h, List.eq_nil_of_length_eq_zero (by rw [HL.out]; exact h)⟩
          · refine .inr ⟨w.heap.size, 0, rfl, hrow.lt, fun i hi => ?_⟩
            rw [Nat.zero_add]
            refine hrow.cell ?_
            have := cloneMidI_full z i (by rw [HL.out]; exact hi)
            rw [HL.out] at this
            exact this
/-! ### a slice of strings that the call owns -/
theorem Strs.of_own {w : World} {base n : Nat} {t : TypeId} {v : Value} {xs : List ByteArray} (h : w.ownsRow base t 1 v n (xs.map Value.string)) (hm : n ≤ maxLen) (hx : ∀ z ∈ xs, z.size ≤ maxLen) : ∃ A c, v = .slice A n c ∧ Strs w A n xs := by
  obtain ⟨hl, h⟩ := h
  simp at hl
  rcases h with ⟨rfl, rfl⟩ | ⟨g, cap, cur, rfl, _, hh, _, _, _, ht⟩
  · exact ⟨none, 0, rfl, hl, hm, hx, .inl ⟨rfl, List.eq_nil_of_length_eq_zero hl⟩⟩
  · refine ⟨_, _, rfl, hl, hm, hx, .inr ⟨g, 0, rfl, lt_of_some hh, fun i hi => ?_⟩⟩
    rw [Nat.zero_add, cell_of_row w g i cur t (0, 0) hh]
    rw [Nat.mul_one] at ht
    have h1 : (cur.toList.take n)[i]? = some (.string (xs.getD i ByteArray.empty)) := by rw [ht]; simp [List.getElem?_eq_getElem (show i < xs.length by omega)]
    rw [List.getElem?_take, if_pos hi] at h1
    simpa using h1
theorem own_grow {w wr w2 : World} {v : Value} {base n : Nat} {t : TypeId} {size : Nat} {xs : List Value} (hown : wr.ownsRow base t size v n xs) (hb : Below base w wr) (hB : base ≤ w.heap.size) (o : Obj) (hg : (wr.alloc o).grownBy w2 v.ownBlock) : Below base w w2 := by
  refine (hb.alloc (Nat.le_trans hB hb.size) o).grown hg (by have := hb.size; simp; omega) (fun k hk => ?_)
  obtain ⟨_, h⟩ := hown
  rcases h with ⟨rfl, _⟩ | ⟨g, cap, cur, rfl, hbg, _⟩
  · cases hk
  · injection hk with hk; subst hk; exact hbg
theorem one_news {w : World} {o : Value} {t : TypeId} : ∀ (j : Nat) (u : Value), [o][j]? = some u → (w.alloc (.cells #[o] t)).cell? ((⟨w.heap.size, 0, none⟩ : Addr).add j) = some u := by
  intro j u hj
  obtain ⟨rfl, rfl⟩ : j = 0 ∧ u = o := by
    match j, hj with
    | 0, hj => simp at hj; exact ⟨rfl, hj.symm⟩
  exact (cell_new' w _ t w.heap.size 0 rfl)
theorem ext_size (s : ByteArray) (a b : Nat) (h : s.size ≤ maxLen) : (s.extract a b).size ≤ maxLen := by
  have : (s.extract a b).size ≤ s.size := by simp [ByteArray.size_extract]; omega
  omega
/-- What zzSplitByte gives. -/
def splF (s : ByteArray) (sep : UInt8) : List ByteArray := if s.size = 0 then [] else PS.splAt s sep 0 0
set_option maxHeartbeats 1000000 in
set_option maxRecDepth 100000 in
theorem split_any (s : ByteArray) (sep : UInt8) (v : Int) (hv : (sep.toNat : Int) = v) (w : World) (hs : s.size ≤ 1073741824) :
    Calls Try.prog 45 #[.string s, .int .u8 v] w (ClonePost w (splF s sep).length (splF s sep)) := by
  have HV := Lib.hid hv; clear hv
  obtain ⟨i0, hi, hz0, hz1, hz2⟩ := info_parts strInfo
  by_cases h0 : s.size = 0
  · have he : s.toList.isEmpty = true := by rw [toList_empty]; simpa using h0
    have hr : splF s sep = [] := by unfold splF; rw [if_pos h0]
    rw [hr]
    clear hr h0
    go_enter Try.func45, Try.ntmps45
    go_wp2_with fail
    go_ret
    exact ⟨none, 0, rfl, ⟨rfl, Nat.zero_le _, by simp, .inl ⟨rfl, rfl⟩⟩, Below.refl _ _⟩
  have he : s.toList.isEmpty = false := by rw [toList_empty]; simpa using h0
  have hr : splF s sep = PS.splAt s sep 0 0 := by unfold splF; rw [if_neg h0]
  rw [hr]
  clear hr h0
  generalize hX : PS.splAt s sep 0 0 = X
  have HX := Lib.hid hX; clear hX
  go_enter Try.func45, Try.ntmps45
  go_wp2_with fail
  go_loopg [5, 6, 7] s.size (fun k o st i wr => ∃ (a j : Nat) (ys : List ByteArray), k = s.size - j ∧ j ≤ s.size ∧ a ≤ j ∧ st = .int .i64 a ∧ i = .int .i64 j ∧ Hid (ys.length ≤ j ∧ (∀ z ∈ ys, z.size ≤ maxLen) ∧ ys ++ PS.splAt s sep a j = X) ∧ wr.ownsRow w.heap.size 9 1 o ys.length (ys.map Value.string) ∧ Below w.heap.size w wr)
  case atStart => exact ⟨0, 0, [], rfl, Nat.zero_le _, Nat.le_refl _, rfl, rfl, ⟨Nat.zero_le _, by simp, HX.out⟩, World.ownsRow_nil _ _ _ _, Below.refl _ _⟩
  case round =>
    obtain ⟨a, j, ys, hk, hj, ha, rfl, rfl, HY, hown, hbel⟩ := hrel
    have KK := Lib.hid hk; clear hk
    have hyl := HY.out.1
    have hsz := hbel.size
    by_cases hlt : j < s.size
    · have g0 : (0 : Int) ≤ (j : Int) := by omega
      have g1 : (j : Int) < (s.size : Int) := by omega
      by_cases hs' : s[j] = sep
      · have ht : ((s[j].toNat : Int) == v) = true := by rw [← HV.out, PS.u8_int, hs']; simp
        have HN : Hid ((ys ++ [s.extract a j]).length ≤ j + 1 ∧ (∀ z ∈ ys ++ [s.extract a j], z.size ≤ maxLen) ∧ (ys ++ [s.extract a j]) ++ PS.splAt s sep (j + 1) (j + 1) = X) := by
          refine ⟨by simp; omega, fun z hz => ?_, ?_⟩
          · rcases List.mem_append.1 hz with h | h
            · exact HY.out.2.1 z h
            · simp at h; rw [h]; exact ext_size s a j (by unfold maxLen; omega)
          · have := HY.out.2.2
            rw [PS.splAt_step_hit s sep a j hlt hs'] at this
            rw [← this]; simp
        clear hs'
        go_wp2_with (at_builtin; refine wpList_append_own _ rfl _ _ 22 rfl w.heap.size 9 i0 (.string ByteArray.empty) 1 16 Try.underlying22 hi hz0 hz1 hz2 rfl (by decide) _ _ _ rfl (hown.alloc _) ⟨wr.heap.size, 0, none⟩ 1 1 [.string (s.extract a j)] rfl rfl one_news (by intro u hu; simp at hu; subst hu; rfl) (by unfold maxLen; omega) (by omega) (by simp; omega) ?_; intro v2 w2 hown2 hg2 _)
        have hb2 := own_grow hown hbel (Nat.le_refl _) _ hg2
        have hown3 : w2.ownsRow w.heap.size 9 1 v2 (ys ++ [s.extract a j]).length ((ys ++ [s.extract a j]).map Value.string) := by simpa using hown2
        clear hown2 hg2
        go_wp2_with fail
        go_roundg (s.size - (j + 1))
        case measure => rw [KK.out]; omega
        case rel => exact ⟨j + 1, j + 1, ys ++ [s.extract a j], rfl, by omega, Nat.le_refl _, by go_num, by go_num, HN, hown3, hb2⟩
      · have ht : ((s[j].toNat : Int) == v) = false := by rw [← HV.out, PS.u8_int]; simpa using hs'
        have HN : Hid (ys.length ≤ j + 1 ∧ (∀ z ∈ ys, z.size ≤ maxLen) ∧ ys ++ PS.splAt s sep a (j + 1) = X) := by
          refine ⟨by omega, HY.out.2.1, ?_⟩
          rw [← PS.splAt_step_miss s sep a j hlt hs']
          exact HY.out.2.2
        clear hs'
        go_wp2_with fail
        go_roundg (s.size - (j + 1))
        case measure => rw [KK.out]; omega
        case rel => exact ⟨a, j + 1, ys, rfl, by omega, by omega, rfl, by go_num, HN, hown, hbel⟩
    · have HN : Hid ((∀ z ∈ ys ++ [s.extract a s.size], z.size ≤ maxLen) ∧ ys ++ [s.extract a s.size] = X) := by
        refine ⟨fun z hz => ?_, ?_⟩
        · rcases List.mem_append.1 hz with h | h
          · exact HY.out.2.1 z h
          · simp at h; rw [h]; exact ext_size s a s.size (by unfold maxLen; omega)
        · have := HY.out.2.2
          rw [PS.splAt_end s sep a j hlt] at this
          exact this
      have g2 : (0 : Int) ≤ (a : Int) := by omega
      have g3 : (a : Int) ≤ (s.size : Int) := by omega
      go_wp2_with (at_builtin; refine wpList_append_own _ rfl _ _ 22 rfl w.heap.size 9 i0 (.string ByteArray.empty) 1 16 Try.underlying22 hi hz0 hz1 hz2 rfl (by decide) _ _ _ rfl (hown.alloc _) ⟨wr.heap.size, 0, none⟩ 1 1 [.string (s.extract a s.size)] rfl rfl one_news (by intro u hu; simp at hu; subst hu; rfl) (by unfold maxLen; omega) (by omega) (by simp; omega) ?_; intro v2 w2 hown2 hg2 _)
      have hb2 := own_grow hown hbel (Nat.le_refl _) _ hg2
      have hown3 : w2.ownsRow w.heap.size 9 1 v2 (ys ++ [s.extract a s.size]).length ((ys ++ [s.extract a s.size]).map Value.string) := by simpa using hown2
      rw [HN.out.2] at hown3
      obtain ⟨A, c, hv2, hS⟩ := Strs.of_own hown3 (by rw [← HN.out.2]; unfold maxLen; simp; omega) (by rw [← HN.out.2]; exact HN.out.1)
      clear hown2 hg2 hown3
      go_wp2_with fail
      go_ret
      exact ⟨A, c, by rw [hv2]; rfl, hS, hb2⟩
end Go.Proofs.Ytjneojglklbbfaa
