/-
  The bounds' tests of n025_12, the count of bytes, the copy of a slice of strings. Conditions: sizes as stated.
-/
import Derived.Test.YtjgmknlkgpfpkaaJ3
import Derived.Lib.LazyBuf
namespace Go.Proofs.Ytjgmknlkgpfpkaa
open Go.RowKit
set_option linter.unusedSimpArgs false
set_option linter.unusedVariables false
def sumB : List ByteArray → Nat
  | [] => 0
  | x :: r => x.size + sumB r
theorem take_snoc (xs : List ByteArray) (i : Nat) (h : i < xs.length) : xs.take (i + 1) = xs.take i ++ [xs.getD i ByteArray.empty] := by
  rw [List.take_succ_eq_append_getElem h, List.getD_eq_getElem?_getD, List.getElem?_eq_getElem h]; rfl
theorem sumB_append (xs ys : List ByteArray) : sumB (xs ++ ys) = sumB xs + sumB ys := by
  induction xs with
  | nil => simp [sumB]
  | cons x r ih => simp only [List.cons_append, sumB, ih]; omega
theorem sumB_snoc (xs : List ByteArray) (i : Nat) (h : i < xs.length) : sumB (xs.take (i + 1)) = sumB (xs.take i) + (xs.getD i ByteArray.empty).size := by
  rw [take_snoc xs i h, sumB_append]; simp [sumB]
theorem sumB_take (xs : List ByteArray) (i : Nat) : sumB (xs.take i) ≤ sumB xs := by
  have := sumB_append (xs.take i) (xs.drop i)
  rw [List.take_append_drop] at this
  omega
theorem sumB_get (xs : List ByteArray) (i : Nat) : (xs.getD i ByteArray.empty).size ≤ sumB xs := by
  rcases Nat.lt_or_ge i xs.length with h | h
  · have h1 := sumB_take xs (i + 1)
    rw [sumB_snoc xs i h] at h1
    omega
  · rw [List.getD_eq_getElem?_getD, List.getElem?_eq_none h]
    exact Nat.zero_le _
set_option maxHeartbeats 4000000 in
set_option maxRecDepth 100000 in
theorem zzA (A0 : Option Addr) (n0 c0 : Nat) (z0 : List ByteArray) (A1 : Option Addr) (n1 c1 : Nat) (z1 : List ByteArray) (s2 : ByteArray) (A3 : Option Addr) (n3 c3 : Nat) (z3 : List ByteArray) (w : World) (hv0 : Strs w A0 n0 z0) (hv1 : Strs w A1 n1 z1) (hs2 : s2.size ≤ maxLen) (hv3 : Strs w A3 n3 z3) : Calls Try.prog 6 #[.slice A0 n0 c0, .slice A1 n1 c1, .string s2, .slice A3 n3 c3] w (fun e w' => ∃ b, e = .returned (.bool b) ∧ w = w' ∧ (b = true → n0 ≤ 1048576 ∧ sumB z0 ≤ 1048576 ∧ n1 ≤ 1048576 ∧ sumB z1 ≤ 1048576 ∧ s2.size ≤ 1048576 ∧ n3 ≤ 1048576 ∧ sumB z3 ≤ 1048576)) := by
  have h0 := hv0.2.1
  have HL0 := Lib.hid hv0.1
  have HV0 := Lib.hid hv0
  unfold maxLen at h0
  clear hv0
  have h1 := hv1.2.1
  have HL1 := Lib.hid hv1.1
  have HV1 := Lib.hid hv1
  unfold maxLen at h1
  clear hv1
  unfold maxLen at hs2
  have h3 := hv3.2.1
  have HL3 := Lib.hid hv3.1
  have HV3 := Lib.hid hv3
  unfold maxLen at h3
  clear hv3
  go_enter Try.func6, Try.ntmps6
  go_wp2_with fail
  all_goals try (go_ret; exact ⟨_, rfl, rfl, fun h => Bool.noConfusion h⟩)
  obtain ⟨q0, hq0⟩ : ∃ x, x = n0 := ⟨_, rfl⟩
  have q0b : q0 ≤ 1048576 := by omega
  have Hq0 := Lib.hid hq0
  go_loopg [8, 9, 10] n0 (fun k u z i wq => ∃ j m : Nat, k = n0 - j ∧ j ≤ n0 ∧ m ≤ 1048576 ∧ z = .int .i64 m ∧ i = .int .i64 j ∧ wq = w ∧ u = .bool false ∧ Hid (m = q0 + sumB (z0.take j)))
  case atStart => exact ⟨0, q0, rfl, Nat.zero_le _, by omega, by rw [hq0], rfl, rfl, rfl, Lib.hid rfl⟩
  case round =>
    obtain ⟨j, m, hk, hj, hm, rfl, rfl, rfl, rfl, HM⟩ := hrel
    have KK := Lib.hid hk; clear hk
    try clear hq0
    by_cases hlt : j < n0
    · rcases HV0.out.split with h | ⟨b, off, rfl, hc⟩
      · exfalso; omega
      have hcj := hc.out j hlt
      have hsj := HV0.out.size j
      have HS := Lib.hid (sumB_snoc z0 j (by rw [HL0.out]; exact hlt))
      clear hc
      generalize z0.getD j ByteArray.empty = sj at hcj hsj HS
      have hi0 : (0 : Int) ≤ (j : Int) := by omega
      have hi1 : (j : Int) < (n0 : Int) := by omega
      go_wp2_with fail
      all_goals first
        | (go_ret; exact ⟨_, rfl, rfl, fun h => Bool.noConfusion h⟩)
        | (go_roundg (n0 - (j + 1))
           case measure => rw [KK.out]; omega
           case rel => exact ⟨j + 1, m + sj.size, rfl, by omega, by omega, by go_num, by go_num, rfl, rfl, Lib.hid (by rw [HS.out, HM.out]; omega)⟩)
    · have hfin : z0.take j = z0 := List.take_of_length_le (by rw [HL0.out]; omega)
      have hmm := HM.out
      rw [hfin] at hmm
      have HMM0 := Lib.hid hmm
      clear hmm hfin HM KK
      obtain ⟨m0, rfl⟩ : ∃ x, x = m := ⟨_, rfl⟩
      go_wp2_with fail
      all_goals try (go_ret; exact ⟨_, rfl, rfl, fun h => Bool.noConfusion h⟩)
      obtain ⟨q1, hq1⟩ : ∃ x, x = m0 + n1 := ⟨_, rfl⟩
      have q1b : q1 ≤ 1048576 := by omega
      rw [show (m0 : Int) + (n1 : Int) = (q1 : Int) by omega]
      have Hq1 := Lib.hid hq1
      go_loopg [8, 9, 11] n1 (fun k u z i wq => ∃ j m : Nat, k = n1 - j ∧ j ≤ n1 ∧ m ≤ 1048576 ∧ z = .int .i64 m ∧ i = .int .i64 j ∧ wq = wr ∧ u = .bool false ∧ Hid (m = q1 + sumB (z1.take j)))
      case atStart => exact ⟨0, q1, rfl, Nat.zero_le _, by omega, rfl, rfl, rfl, rfl, Lib.hid rfl⟩
      case round =>
        obtain ⟨j, m, hk, hj, hm, rfl, rfl, rfl, rfl, HM⟩ := hrel
        have KK := Lib.hid hk; clear hk
        try clear hq1
        by_cases hlt : j < n1
        · rcases HV1.out.split with h | ⟨b, off, rfl, hc⟩
          · exfalso; omega
          have hcj := hc.out j hlt
          have hsj := HV1.out.size j
          have HS := Lib.hid (sumB_snoc z1 j (by rw [HL1.out]; exact hlt))
          clear hc
          generalize z1.getD j ByteArray.empty = sj at hcj hsj HS
          have hi0 : (0 : Int) ≤ (j : Int) := by omega
          have hi1 : (j : Int) < (n1 : Int) := by omega
          go_wp2_with fail
          all_goals first
            | (go_ret; exact ⟨_, rfl, rfl, fun h => Bool.noConfusion h⟩)
            | (go_roundg (n1 - (j + 1))
               case measure => rw [KK.out]; omega
               case rel => exact ⟨j + 1, m + sj.size, rfl, by omega, by omega, by go_num, by go_num, rfl, rfl, Lib.hid (by rw [HS.out, HM.out]; omega)⟩)
        · have hfin : z1.take j = z1 := List.take_of_length_le (by rw [HL1.out]; omega)
          have hmm := HM.out
          rw [hfin] at hmm
          have HMM1 := Lib.hid hmm
          clear hmm hfin HM KK
          obtain ⟨m1, rfl⟩ : ∃ x, x = m := ⟨_, rfl⟩
          go_wp2_with fail
          all_goals try (go_ret; exact ⟨_, rfl, rfl, fun h => Bool.noConfusion h⟩)
          obtain ⟨q2, hq2⟩ : ∃ x, x = m1 + s2.size + n3 := ⟨_, rfl⟩
          have q2b : q2 ≤ 1048576 := by omega
          rw [show (m1 : Int) + (s2.size : Int) + (n3 : Int) = (q2 : Int) by omega]
          have Hq2 := Lib.hid hq2
          go_loopg [8, 9, 12] n3 (fun k u z i wq => ∃ j m : Nat, k = n3 - j ∧ j ≤ n3 ∧ m ≤ 1048576 ∧ z = .int .i64 m ∧ i = .int .i64 j ∧ wq = wr ∧ u = .bool false ∧ Hid (m = q2 + sumB (z3.take j)))
          case atStart => exact ⟨0, q2, rfl, Nat.zero_le _, by omega, rfl, rfl, rfl, rfl, Lib.hid rfl⟩
          case round =>
            obtain ⟨j, m, hk, hj, hm, rfl, rfl, rfl, rfl, HM⟩ := hrel
            have KK := Lib.hid hk; clear hk
            try clear hq2
            by_cases hlt : j < n3
            · rcases HV3.out.split with h | ⟨b, off, rfl, hc⟩
              · exfalso; omega
              have hcj := hc.out j hlt
              have hsj := HV3.out.size j
              have HS := Lib.hid (sumB_snoc z3 j (by rw [HL3.out]; exact hlt))
              clear hc
              generalize z3.getD j ByteArray.empty = sj at hcj hsj HS
              have hi0 : (0 : Int) ≤ (j : Int) := by omega
              have hi1 : (j : Int) < (n3 : Int) := by omega
              go_wp2_with fail
              all_goals first
                | (go_ret; exact ⟨_, rfl, rfl, fun h => Bool.noConfusion h⟩)
                | (go_roundg (n3 - (j + 1))
                   case measure => rw [KK.out]; omega
                   case rel => exact ⟨j + 1, m + sj.size, rfl, by omega, by omega, by go_num, by go_num, rfl, rfl, Lib.hid (by rw [HS.out, HM.out]; omega)⟩)
            · have hfin : z3.take j = z3 := List.take_of_length_le (by rw [HL3.out]; omega)
              have hmm := HM.out
              rw [hfin] at hmm
              have HMM3 := Lib.hid hmm
              clear hmm hfin HM KK
              obtain ⟨m3, rfl⟩ : ∃ x, x = m := ⟨_, rfl⟩
              go_wp2_with fail
              go_ret
              exact ⟨_, rfl, rfl, fun _ => by have f0 := HMM0.out; have f1 := Hq0.out; have f2 := HMM1.out; have f3 := Hq1.out; have f4 := HMM3.out; have f5 := Hq2.out; omega⟩
set_option maxHeartbeats 4000000 in
set_option maxRecDepth 100000 in
theorem zzB (A0 : Option Addr) (n0 c0 : Nat) (z0 : List ByteArray) (A1 : Option Addr) (n1 c1 : Nat) (z1 : List ByteArray) (A2 : Option Addr) (n2 c2 : Nat) (z2 : List ByteArray) (w : World) (hv0 : Strs w A0 n0 z0) (hv1 : Strs w A1 n1 z1) (hv2 : Strs w A2 n2 z2) : Calls Try.prog 15 #[.slice A0 n0 c0, .slice A1 n1 c1, .slice A2 n2 c2] w (fun e w' => ∃ b, e = .returned (.bool b) ∧ w = w' ∧ (b = true → n0 ≤ 1048576 ∧ sumB z0 ≤ 1048576 ∧ n1 ≤ 1048576 ∧ sumB z1 ≤ 1048576 ∧ n2 ≤ 1048576 ∧ sumB z2 ≤ 1048576)) := by
  have h0 := hv0.2.1
  have HL0 := Lib.hid hv0.1
  have HV0 := Lib.hid hv0
  unfold maxLen at h0
  clear hv0
  have h1 := hv1.2.1
  have HL1 := Lib.hid hv1.1
  have HV1 := Lib.hid hv1
  unfold maxLen at h1
  clear hv1
  have h2 := hv2.2.1
  have HL2 := Lib.hid hv2.1
  have HV2 := Lib.hid hv2
  unfold maxLen at h2
  clear hv2
  go_enter Try.func15, Try.ntmps15
  go_wp2_with fail
  all_goals try (go_ret; exact ⟨_, rfl, rfl, fun h => Bool.noConfusion h⟩)
  obtain ⟨q0, hq0⟩ : ∃ x, x = n0 := ⟨_, rfl⟩
  have q0b : q0 ≤ 1048576 := by omega
  have Hq0 := Lib.hid hq0
  go_loopg [6, 7, 8] n0 (fun k u z i wq => ∃ j m : Nat, k = n0 - j ∧ j ≤ n0 ∧ m ≤ 1048576 ∧ z = .int .i64 m ∧ i = .int .i64 j ∧ wq = w ∧ u = .bool false ∧ Hid (m = q0 + sumB (z0.take j)))
  case atStart => exact ⟨0, q0, rfl, Nat.zero_le _, by omega, by rw [hq0], rfl, rfl, rfl, Lib.hid rfl⟩
  case round =>
    obtain ⟨j, m, hk, hj, hm, rfl, rfl, rfl, rfl, HM⟩ := hrel
    have KK := Lib.hid hk; clear hk
    try clear hq0
    by_cases hlt : j < n0
    · rcases HV0.out.split with h | ⟨b, off, rfl, hc⟩
      · exfalso; omega
      have hcj := hc.out j hlt
      have hsj := HV0.out.size j
      have HS := Lib.hid (sumB_snoc z0 j (by rw [HL0.out]; exact hlt))
      clear hc
      generalize z0.getD j ByteArray.empty = sj at hcj hsj HS
      have hi0 : (0 : Int) ≤ (j : Int) := by omega
      have hi1 : (j : Int) < (n0 : Int) := by omega
      go_wp2_with fail
      all_goals first
        | (go_ret; exact ⟨_, rfl, rfl, fun h => Bool.noConfusion h⟩)
        | (go_roundg (n0 - (j + 1))
           case measure => rw [KK.out]; omega
           case rel => exact ⟨j + 1, m + sj.size, rfl, by omega, by omega, by go_num, by go_num, rfl, rfl, Lib.hid (by rw [HS.out, HM.out]; omega)⟩)
    · have hfin : z0.take j = z0 := List.take_of_length_le (by rw [HL0.out]; omega)
      have hmm := HM.out
      rw [hfin] at hmm
      have HMM0 := Lib.hid hmm
      clear hmm hfin HM KK
      obtain ⟨m0, rfl⟩ : ∃ x, x = m := ⟨_, rfl⟩
      go_wp2_with fail
      all_goals try (go_ret; exact ⟨_, rfl, rfl, fun h => Bool.noConfusion h⟩)
      obtain ⟨q1, hq1⟩ : ∃ x, x = m0 + n1 := ⟨_, rfl⟩
      have q1b : q1 ≤ 1048576 := by omega
      rw [show (m0 : Int) + (n1 : Int) = (q1 : Int) by omega]
      have Hq1 := Lib.hid hq1
      go_loopg [6, 7, 9] n1 (fun k u z i wq => ∃ j m : Nat, k = n1 - j ∧ j ≤ n1 ∧ m ≤ 1048576 ∧ z = .int .i64 m ∧ i = .int .i64 j ∧ wq = wr ∧ u = .bool false ∧ Hid (m = q1 + sumB (z1.take j)))
      case atStart => exact ⟨0, q1, rfl, Nat.zero_le _, by omega, rfl, rfl, rfl, rfl, Lib.hid rfl⟩
      case round =>
        obtain ⟨j, m, hk, hj, hm, rfl, rfl, rfl, rfl, HM⟩ := hrel
        have KK := Lib.hid hk; clear hk
        try clear hq1
        by_cases hlt : j < n1
        · rcases HV1.out.split with h | ⟨b, off, rfl, hc⟩
          · exfalso; omega
          have hcj := hc.out j hlt
          have hsj := HV1.out.size j
          have HS := Lib.hid (sumB_snoc z1 j (by rw [HL1.out]; exact hlt))
          clear hc
          generalize z1.getD j ByteArray.empty = sj at hcj hsj HS
          have hi0 : (0 : Int) ≤ (j : Int) := by omega
          have hi1 : (j : Int) < (n1 : Int) := by omega
          go_wp2_with fail
          all_goals first
            | (go_ret; exact ⟨_, rfl, rfl, fun h => Bool.noConfusion h⟩)
            | (go_roundg (n1 - (j + 1))
               case measure => rw [KK.out]; omega
               case rel => exact ⟨j + 1, m + sj.size, rfl, by omega, by omega, by go_num, by go_num, rfl, rfl, Lib.hid (by rw [HS.out, HM.out]; omega)⟩)
        · have hfin : z1.take j = z1 := List.take_of_length_le (by rw [HL1.out]; omega)
          have hmm := HM.out
          rw [hfin] at hmm
          have HMM1 := Lib.hid hmm
          clear hmm hfin HM KK
          obtain ⟨m1, rfl⟩ : ∃ x, x = m := ⟨_, rfl⟩
          go_wp2_with fail
          all_goals try (go_ret; exact ⟨_, rfl, rfl, fun h => Bool.noConfusion h⟩)
          obtain ⟨q2, hq2⟩ : ∃ x, x = m1 + n2 := ⟨_, rfl⟩
          have q2b : q2 ≤ 1048576 := by omega
          rw [show (m1 : Int) + (n2 : Int) = (q2 : Int) by omega]
          have Hq2 := Lib.hid hq2
          go_loopg [6, 7, 10] n2 (fun k u z i wq => ∃ j m : Nat, k = n2 - j ∧ j ≤ n2 ∧ m ≤ 1048576 ∧ z = .int .i64 m ∧ i = .int .i64 j ∧ wq = wr ∧ u = .bool false ∧ Hid (m = q2 + sumB (z2.take j)))
          case atStart => exact ⟨0, q2, rfl, Nat.zero_le _, by omega, rfl, rfl, rfl, rfl, Lib.hid rfl⟩
          case round =>
            obtain ⟨j, m, hk, hj, hm, rfl, rfl, rfl, rfl, HM⟩ := hrel
            have KK := Lib.hid hk; clear hk
            try clear hq2
            by_cases hlt : j < n2
            · rcases HV2.out.split with h | ⟨b, off, rfl, hc⟩
              · exfalso; omega
              have hcj := hc.out j hlt
              have hsj := HV2.out.size j
              have HS := Lib.hid (sumB_snoc z2 j (by rw [HL2.out]; exact hlt))
              clear hc
              generalize z2.getD j ByteArray.empty = sj at hcj hsj HS
              have hi0 : (0 : Int) ≤ (j : Int) := by omega
              have hi1 : (j : Int) < (n2 : Int) := by omega
              go_wp2_with fail
              all_goals first
                | (go_ret; exact ⟨_, rfl, rfl, fun h => Bool.noConfusion h⟩)
                | (go_roundg (n2 - (j + 1))
                   case measure => rw [KK.out]; omega
                   case rel => exact ⟨j + 1, m + sj.size, rfl, by omega, by omega, by go_num, by go_num, rfl, rfl, Lib.hid (by rw [HS.out, HM.out]; omega)⟩)
            · have hfin : z2.take j = z2 := List.take_of_length_le (by rw [HL2.out]; omega)
              have hmm := HM.out
              rw [hfin] at hmm
              have HMM2 := Lib.hid hmm
              clear hmm hfin HM KK
              obtain ⟨m2, rfl⟩ : ∃ x, x = m := ⟨_, rfl⟩
              go_wp2_with fail
              go_ret
              exact ⟨_, rfl, rfl, fun _ => by have f0 := HMM0.out; have f1 := Hq0.out; have f2 := HMM1.out; have f3 := Hq1.out; have f4 := HMM2.out; have f5 := Hq2.out; omega⟩
set_option maxHeartbeats 4000000 in
set_option maxRecDepth 100000 in
theorem zzC (A0 : Option Addr) (n0 c0 : Nat) (z0 : List ByteArray) (A1 : Option Addr) (n1 c1 : Nat) (z1 : List ByteArray) (s2 : ByteArray) (A3 : Option Addr) (n3 c3 : Nat) (z3 : List ByteArray) (w : World) (hv0 : Strs w A0 n0 z0) (hv1 : Strs w A1 n1 z1) (hs2 : s2.size ≤ maxLen) (hv3 : Strs w A3 n3 z3) : Calls Try.prog 18 #[.slice A0 n0 c0, .slice A1 n1 c1, .string s2, .slice A3 n3 c3] w (fun e w' => ∃ b, e = .returned (.bool b) ∧ w = w' ∧ (b = true → n0 ≤ 1048576 ∧ sumB z0 ≤ 1048576 ∧ n1 ≤ 1048576 ∧ sumB z1 ≤ 1048576 ∧ s2.size ≤ 1048576 ∧ n3 ≤ 1048576 ∧ sumB z3 ≤ 1048576)) := by
  have h0 := hv0.2.1
  have HL0 := Lib.hid hv0.1
  have HV0 := Lib.hid hv0
  unfold maxLen at h0
  clear hv0
  have h1 := hv1.2.1
  have HL1 := Lib.hid hv1.1
  have HV1 := Lib.hid hv1
  unfold maxLen at h1
  clear hv1
  unfold maxLen at hs2
  have h3 := hv3.2.1
  have HL3 := Lib.hid hv3.1
  have HV3 := Lib.hid hv3
  unfold maxLen at h3
  clear hv3
  go_enter Try.func18, Try.ntmps18
  go_wp2_with fail
  all_goals try (go_ret; exact ⟨_, rfl, rfl, fun h => Bool.noConfusion h⟩)
  obtain ⟨q0, hq0⟩ : ∃ x, x = n0 := ⟨_, rfl⟩
  have q0b : q0 ≤ 1048576 := by omega
  have Hq0 := Lib.hid hq0
  go_loopg [8, 9, 10] n0 (fun k u z i wq => ∃ j m : Nat, k = n0 - j ∧ j ≤ n0 ∧ m ≤ 1048576 ∧ z = .int .i64 m ∧ i = .int .i64 j ∧ wq = w ∧ u = .bool false ∧ Hid (m = q0 + sumB (z0.take j)))
  case atStart => exact ⟨0, q0, rfl, Nat.zero_le _, by omega, by rw [hq0], rfl, rfl, rfl, Lib.hid rfl⟩
  case round =>
    obtain ⟨j, m, hk, hj, hm, rfl, rfl, rfl, rfl, HM⟩ := hrel
    have KK := Lib.hid hk; clear hk
    try clear hq0
    by_cases hlt : j < n0
    · rcases HV0.out.split with h | ⟨b, off, rfl, hc⟩
      · exfalso; omega
      have hcj := hc.out j hlt
      have hsj := HV0.out.size j
      have HS := Lib.hid (sumB_snoc z0 j (by rw [HL0.out]; exact hlt))
      clear hc
      generalize z0.getD j ByteArray.empty = sj at hcj hsj HS
      have hi0 : (0 : Int) ≤ (j : Int) := by omega
      have hi1 : (j : Int) < (n0 : Int) := by omega
      go_wp2_with fail
      all_goals first
        | (go_ret; exact ⟨_, rfl, rfl, fun h => Bool.noConfusion h⟩)
        | (go_roundg (n0 - (j + 1))
           case measure => rw [KK.out]; omega
           case rel => exact ⟨j + 1, m + sj.size, rfl, by omega, by omega, by go_num, by go_num, rfl, rfl, Lib.hid (by rw [HS.out, HM.out]; omega)⟩)
    · have hfin : z0.take j = z0 := List.take_of_length_le (by rw [HL0.out]; omega)
      have hmm := HM.out
      rw [hfin] at hmm
      have HMM0 := Lib.hid hmm
      clear hmm hfin HM KK
      obtain ⟨m0, rfl⟩ : ∃ x, x = m := ⟨_, rfl⟩
      go_wp2_with fail
      all_goals try (go_ret; exact ⟨_, rfl, rfl, fun h => Bool.noConfusion h⟩)
      obtain ⟨q1, hq1⟩ : ∃ x, x = m0 + n1 := ⟨_, rfl⟩
      have q1b : q1 ≤ 1048576 := by omega
      rw [show (m0 : Int) + (n1 : Int) = (q1 : Int) by omega]
      have Hq1 := Lib.hid hq1
      go_loopg [8, 9, 11] n1 (fun k u z i wq => ∃ j m : Nat, k = n1 - j ∧ j ≤ n1 ∧ m ≤ 1048576 ∧ z = .int .i64 m ∧ i = .int .i64 j ∧ wq = wr ∧ u = .bool false ∧ Hid (m = q1 + sumB (z1.take j)))
      case atStart => exact ⟨0, q1, rfl, Nat.zero_le _, by omega, rfl, rfl, rfl, rfl, Lib.hid rfl⟩
      case round =>
        obtain ⟨j, m, hk, hj, hm, rfl, rfl, rfl, rfl, HM⟩ := hrel
        have KK := Lib.hid hk; clear hk
        try clear hq1
        by_cases hlt : j < n1
        · rcases HV1.out.split with h | ⟨b, off, rfl, hc⟩
          · exfalso; omega
          have hcj := hc.out j hlt
          have hsj := HV1.out.size j
          have HS := Lib.hid (sumB_snoc z1 j (by rw [HL1.out]; exact hlt))
          clear hc
          generalize z1.getD j ByteArray.empty = sj at hcj hsj HS
          have hi0 : (0 : Int) ≤ (j : Int) := by omega
          have hi1 : (j : Int) < (n1 : Int) := by omega
          go_wp2_with fail
          all_goals first
            | (go_ret; exact ⟨_, rfl, rfl, fun h => Bool.noConfusion h⟩)
            | (go_roundg (n1 - (j + 1))
               case measure => rw [KK.out]; omega
               case rel => exact ⟨j + 1, m + sj.size, rfl, by omega, by omega, by go_num, by go_num, rfl, rfl, Lib.hid (by rw [HS.out, HM.out]; omega)⟩)
        · have hfin : z1.take j = z1 := List.take_of_length_le (by rw [HL1.out]; omega)
          have hmm := HM.out
          rw [hfin] at hmm
          have HMM1 := Lib.hid hmm
          clear hmm hfin HM KK
          obtain ⟨m1, rfl⟩ : ∃ x, x = m := ⟨_, rfl⟩
          go_wp2_with fail
          all_goals try (go_ret; exact ⟨_, rfl, rfl, fun h => Bool.noConfusion h⟩)
          obtain ⟨q2, hq2⟩ : ∃ x, x = m1 + s2.size + n3 := ⟨_, rfl⟩
          have q2b : q2 ≤ 1048576 := by omega
          rw [show (m1 : Int) + (s2.size : Int) + (n3 : Int) = (q2 : Int) by omega]
          have Hq2 := Lib.hid hq2
          go_loopg [8, 9, 12] n3 (fun k u z i wq => ∃ j m : Nat, k = n3 - j ∧ j ≤ n3 ∧ m ≤ 1048576 ∧ z = .int .i64 m ∧ i = .int .i64 j ∧ wq = wr ∧ u = .bool false ∧ Hid (m = q2 + sumB (z3.take j)))
          case atStart => exact ⟨0, q2, rfl, Nat.zero_le _, by omega, rfl, rfl, rfl, rfl, Lib.hid rfl⟩
          case round =>
            obtain ⟨j, m, hk, hj, hm, rfl, rfl, rfl, rfl, HM⟩ := hrel
            have KK := Lib.hid hk; clear hk
            try clear hq2
            by_cases hlt : j < n3
            · rcases HV3.out.split with h | ⟨b, off, rfl, hc⟩
              · exfalso; omega
              have hcj := hc.out j hlt
              have hsj := HV3.out.size j
              have HS := Lib.hid (sumB_snoc z3 j (by rw [HL3.out]; exact hlt))
              clear hc
              generalize z3.getD j ByteArray.empty = sj at hcj hsj HS
              have hi0 : (0 : Int) ≤ (j : Int) := by omega
              have hi1 : (j : Int) < (n3 : Int) := by omega
              go_wp2_with fail
              all_goals first
                | (go_ret; exact ⟨_, rfl, rfl, fun h => Bool.noConfusion h⟩)
                | (go_roundg (n3 - (j + 1))
                   case measure => rw [KK.out]; omega
                   case rel => exact ⟨j + 1, m + sj.size, rfl, by omega, by omega, by go_num, by go_num, rfl, rfl, Lib.hid (by rw [HS.out, HM.out]; omega)⟩)
            · have hfin : z3.take j = z3 := List.take_of_length_le (by rw [HL3.out]; omega)
              have hmm := HM.out
              rw [hfin] at hmm
              have HMM3 := Lib.hid hmm
              clear hmm hfin HM KK
              obtain ⟨m3, rfl⟩ : ∃ x, x = m := ⟨_, rfl⟩
              go_wp2_with fail
              go_ret
              exact ⟨_, rfl, rfl, fun _ => by have f0 := HMM0.out; have f1 := Hq0.out; have f2 := HMM1.out; have f3 := Hq1.out; have f4 := HMM3.out; have f5 := Hq2.out; omega⟩
set_option maxRecDepth 100000 in
theorem strBytes_any (A1 : Option Addr) (n1 c1 : Nat) (z1 : List ByteArray) (w : World) (hv : Strs w A1 n1 z1) (hn : n1 ≤ 1048576) (hs : sumB z1 ≤ 1048576) : Calls Try.prog 7 #[.slice A1 n1 c1] w (fun e w' => ∃ r : Nat, e = .returned (.int .i64 r) ∧ r ≤ 10000000 ∧ w = w') := by
  have HL := Lib.hid hv.1
  have HV := Lib.hid hv
  clear hv
  go_enter Try.func7, Try.ntmps7
  go_wp2_with fail
  obtain ⟨m0, hm0⟩ : ∃ x, x = 8 * n1 := ⟨_, rfl⟩
  rw [show 8 * (n1 : Int) = (m0 : Int) by omega]
  have hm0b : m0 ≤ 8388608 := by omega
  clear hm0
  go_loopg [3, 4] n1 (fun k z i wr => ∃ j m : Nat, k = n1 - j ∧ j ≤ n1 ∧ m ≤ 9437184 ∧ z = .int .i64 m ∧ i = .int .i64 j ∧ wr = w ∧ Hid (m = m0 + sumB (z1.take j)))
  case atStart => exact ⟨0, m0, rfl, Nat.zero_le _, by omega, rfl, rfl, rfl, Lib.hid rfl⟩
  case round =>
    obtain ⟨j, m, hk, hj, hm, rfl, rfl, rfl, HM⟩ := hrel
    have KK := Lib.hid hk; clear hk
    by_cases hlt : j < n1
    · rcases HV.out.split with h | ⟨b, off, rfl, hc⟩
      · exfalso; omega
      have hcj := hc.out j hlt
      have hsj := Nat.le_trans (sumB_get z1 j) hs
      have HS := Lib.hid (sumB_snoc z1 j (by rw [HL.out]; exact hlt))
      have hmj : m + (z1.getD j ByteArray.empty).size ≤ 9437184 := by
        have h1 := HS.out
        have h2 := sumB_take z1 (j + 1)
        have h3 := HM.out
        omega
      clear hc
      generalize z1.getD j ByteArray.empty = sj at hcj hsj HS hmj
      have hi0 : (0 : Int) ≤ (j : Int) := by omega
      have hi1 : (j : Int) < (n1 : Int) := by omega
      go_wp2_with fail
      go_roundg (n1 - (j + 1))
      case measure => rw [KK.out]; omega
      case rel => exact ⟨j + 1, m + sj.size, rfl, by omega, by omega, by go_num, by go_num, rfl, Lib.hid (by rw [HS.out, HM.out]; omega)⟩
    · go_wp2_with fail
      go_ret
      exact ⟨m, rfl, by omega, rfl⟩
theorem Row.set {w : World} {g : Nat} {t : TypeId} {xs : List Value} (h : Row w g t xs) (i : Nat) (u : Value) : Row (w.setCell ⟨g, i, none⟩ u) g t (xs.set i u) := by
  obtain ⟨cur, hc, hx⟩ := h
  refine ⟨cur.setIfInBounds i u, by simp [World.setCell, Array.getElem?_modify, hc], fun j v hv => ?_⟩
  rw [List.getElem?_set] at hv
  split at hv
  · rename_i hij
    subst hij
    split at hv
    · rename_i hlt
      have := hx i xs[i] (List.getElem?_eq_getElem hlt)
      have hsz : i < cur.size := (Array.getElem?_eq_some_iff.1 this).1
      rw [Array.getElem?_setIfInBounds, if_pos rfl, if_pos hsz]
      exact hv
    · cases hv
  · rename_i hij
    rw [Array.getElem?_setIfInBounds, if_neg hij]
    exact hx j v hv
def BoolAny (w : World) (e : Ending) (w' : World) : Prop := ∃ b, e = .returned (.bool b) ∧ w = w'
def cloneMid (zs : List ByteArray) (j : Nat) : List Value := (zs.take j).map Value.string ++ List.replicate (zs.length - j) (Value.string ByteArray.empty)
theorem cloneMid_set (zs : List ByteArray) (j : Nat) (h : j < zs.length) : (cloneMid zs j).set j (.string (zs.getD j ByteArray.empty)) = cloneMid zs (j + 1) := by
  unfold cloneMid
  rw [List.set_append_right _ _ (by simp; omega), take_snoc zs j h]
  have e : j - ((zs.take j).map Value.string).length = 0 := by simp; omega
  rw [e, show zs.length - j = (zs.length - (j + 1)) + 1 by omega, List.replicate_succ, List.set_cons_zero]
  simp
theorem cloneMid_at (zs : List ByteArray) (j i : Nat) (h : i < zs.length) : ∃ s, (cloneMid zs j)[i]? = some (.string s) := by
  unfold cloneMid
  rcases Nat.lt_or_ge i j with g | g
  · rw [List.getElem?_append_left (by simp; omega)]
    exact ⟨zs[i], by simp [g]⟩
  · rw [List.getElem?_append_right (by simp; omega)]
    exact ⟨ByteArray.empty, by rw [List.getElem?_replicate, if_pos (by simp; omega)]⟩
theorem cloneMid_full (zs : List ByteArray) : cloneMid zs zs.length = zs.map Value.string := by simp [cloneMid]
theorem strInfo : (Try.prog.info? 9).map (fun i => (i.zero, i.size, i.bytes)) = some (some (Value.string ByteArray.empty), 1, 16) := by kernel_rfl
set_option maxHeartbeats 1000000 in
set_option maxRecDepth 100000 in
theorem clone_any (A : Option Addr) (n c : Nat) (z : List ByteArray) (w : World) (hv : Strs w A n z) (h0 : 0 < n) (h1 : n ≤ 65536) : Calls Try.prog 8 #[.slice A n c] w (fun e w' => ∃ r, e = .returned (.slice (some ⟨r, 0, none⟩) n n) ∧ Row w' r 9 (z.map Value.string) ∧ Below w.heap.size w w') := by
  obtain ⟨i0, hi, hz0, hz1, hz2⟩ := info_parts strInfo
  have HL := Lib.hid hv.1
  have HV := Lib.hid hv
  rcases hv.split with h | ⟨b0, o0, rfl, hc0⟩
  · exfalso; omega
  clear hv
  have hq := fun W => Lib.run_eql_slice_nil (P := Try.prog) W 22 9 (some ⟨b0, o0, none⟩) n c 0 0 Try.underlying22
  simp only [Option.isNone_some] at hq
  go_enter Try.func8, Try.ntmps8
  go_wp2_with (at_make; refine wpList_make_full _ rfl _ _ 22 rfl w.heap.size 9 i0 _ 1 Try.underlying22 hi hz0 hz1 _ _ _ _ n rfl rfl rfl rfl (by rw [hz2]; omega) (by unfold maxLen; omega) (Nat.le_refl _) ?_; intro w1 hown1 hg1)
  have e1 : (madeCells (Value.cells (Value.string ByteArray.empty)) (n * 1)).toList = cloneMid z 0 := by
    rw [Nat.mul_one]
    unfold cloneMid
    rw [HL.out]
    rw [List.take_zero, List.map_nil, List.nil_append, Nat.sub_zero]
    exact toList_madeCells_one (.string ByteArray.empty) n
  rw [e1] at hown1
  have hrow1 := Row.of_own hown1
  have hb1 : Below w.heap.size w w1 := (Below.refl _ _).grown hg1 (Nat.le_refl _) (fun _ h => by cases h)
  clear hown1 hg1 e1 hq
  go_loopg [4] n (fun k i wr => ∃ j : Nat, k = n - j ∧ j ≤ n ∧ i = .int .i64 j ∧ Row wr w.heap.size 9 (cloneMid z j) ∧ Below w.heap.size w wr)
  case atStart => exact ⟨0, rfl, Nat.zero_le _, rfl, hrow1, hb1⟩
  case round =>
    obtain ⟨j, hk, hj, rfl, hrow, hbel⟩ := hrel
    have KK := Lib.hid hk; clear hk
    by_cases hlt : j < n
    · have hcj := (hbel.cell (p := ⟨b0, o0 + j, none⟩) (World.block_lt_of_cell? _ _ (hc0.out j hlt))).trans (hc0.out j hlt)
      obtain ⟨old, hold⟩ := cloneMid_at z j j (by rw [HL.out]; exact hlt)
      have hco := hrow.cell hold
      have fz := hrow.frozen j
      have hset := hrow.set j (.string (z.getD j ByteArray.empty))
      rw [cloneMid_set z j (by rw [HL.out]; exact hlt)] at hset
      generalize z.getD j ByteArray.empty = sj at hcj hset
      clear hold
      go_wp2_with fail
      go_roundg (n - (j + 1))
      case measure => rw [KK.out]; omega
      case rel => exact ⟨j + 1, rfl, by omega, by go_num, hset, hbel.setCell (p := ⟨w.heap.size, j, none⟩) (Nat.le_refl _) _⟩
    · obtain rfl : n = j := by omega
      have hfu := cloneMid_full z
      rw [HL.out] at hfu
      rw [hfu] at hrow
      go_wp2_with fail
      go_ret
      exact ⟨w.heap.size, rfl, hrow, hbel⟩
end Go.Proofs.Ytjgmknlkgpfpkaa
