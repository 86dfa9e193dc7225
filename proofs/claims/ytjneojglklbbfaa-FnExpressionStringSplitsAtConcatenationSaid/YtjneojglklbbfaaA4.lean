/-
  The walk of FnExpressionStringSplitsAtConcatenation: the print of two lists of alternatives one behind the other. Conditions: none beyond the statement's own.
-/
import Derived.Test.YtjneojglklbbfaaA3
namespace Go.Proofs.Ytjneojglklbbfaa
open Go.RowKit
set_option linter.unusedSimpArgs false
set_option linter.unusedVariables false
namespace fnExpressionStringSplitsAtConcatenation
def ZZPost (w : World) (z y : List (List Spec)) (e : Ending) (w' : World) : Prop := ∃ b, e = .returned (.bool b) ∧ w = w' ∧ (b = true → z.length + sumA z + y.length + sumA y ≤ 1048576)
set_option maxHeartbeats 4000000 in
set_option maxRecDepth 100000 in
theorem zz (A1 : Option Addr) (n1 c1 : Nat) (z1 : List (List Spec)) (A2 : Option Addr) (n2 c2 : Nat) (z2 : List (List Spec)) (w : World) (hv : Alts Specs w A1 n1 z1) (hu : Alts Specs w A2 n2 z2) : Calls Try.prog 27 #[.slice A1 n1 c1, .slice A2 n2 c2] w (ZZPost w z1 z2) := by
  have h1 := hv.2.1
  have h2 := hu.2.1
  have HL1 := Lib.hid hv.1
  have HL2 := Lib.hid hu.1
  have HV1 := Lib.hid hv
  have HV2 := Lib.hid hu
  unfold maxLen at h1 h2
  clear hv hu
  go_enter Try.func27, Try.ntmps27
  go_wp2_with fail
  all_goals try (go_ret; exact ⟨_, rfl, rfl, fun h => Bool.noConfusion h⟩)
  go_loopg [4, 5, 6] n1 (fun k u z i wq => ∃ j m : Nat, k = n1 - j ∧ j ≤ n1 ∧ m ≤ 1048576 ∧ z = .int .i64 m ∧ i = .int .i64 j ∧ wq = w ∧ u = .bool false ∧ Hid (m = n1 + sumA (z1.take j)))
  case atStart => exact ⟨0, n1, rfl, Nat.zero_le _, by omega, rfl, rfl, rfl, rfl, Lib.hid rfl⟩
  case round =>
    obtain ⟨j, m, hk, hj, hm, rfl, rfl, rfl, rfl, HM⟩ := hrel
    have KK := Lib.hid hk; clear hk
    by_cases hlt : j < n1
    · rcases HV1.out.split with h | ⟨b, off, rfl, hc⟩
      · exfalso; omega
      obtain ⟨Ai, ni, ci, hcj, hsi⟩ := hc.out j hlt
      have hni := hsi.2.1
      unfold maxLen at hni
      have HLI := Lib.hid hsi.1
      have HSI := Lib.hid hsi
      have HS := Lib.hid (sumA_snoc z1 j (by rw [HL1.out]; exact hlt))
      clear hc hsi
      obtain ⟨zj, hzj⟩ : ∃ x, x = z1.getD j [] := ⟨_, rfl⟩
      rw [← hzj] at HLI HSI HS
      clear hzj
      have hi0 : (0 : Int) ≤ (j : Int) := by omega
      have hi1 : (j : Int) < (n1 : Int) := by omega
      go_wp2_with fail
      all_goals try (go_ret; exact ⟨_, rfl, rfl, fun h => Bool.noConfusion h⟩)
      obtain ⟨mi, hmi⟩ : ∃ mi, mi = m + ni := ⟨_, rfl⟩
      have hmi3 : mi ≤ 1048576 := by omega
      rw [show (m : Int) + (ni : Int) = (mi : Int) by omega]
      have HMI := Lib.hid hmi; clear hmi
      go_loopg [4, 5, 7] ni (fun k u z i wx => ∃ l q : Nat, k = ni - l ∧ l ≤ ni ∧ q ≤ 1048576 ∧ z = .int .i64 q ∧ i = .int .i64 l ∧ wx = wr ∧ u = .bool false ∧ Hid (q = mi + sumS (zj.take l)))
      case atStart => exact ⟨0, mi, rfl, Nat.zero_le _, by omega, rfl, rfl, rfl, rfl, Lib.hid rfl⟩
      case round =>
        obtain ⟨l, q, hk, hl, hq, rfl, rfl, rfl, rfl, HQ⟩ := hrel
        have KI := Lib.hid hk; clear hk
        by_cases hlt2 : l < ni
        · rcases HSI.out.split with h | ⟨b2, off2, rfl, hc⟩
          · exfalso; omega
          obtain ⟨-, hcl, -⟩ := hc.out l hlt2
          have hsl := (HSI.out.okAt l).2.1
          unfold maxLen at hsl
          have HSL := Lib.hid (sumS_snoc zj l (by rw [HLI.out]; exact hlt2))
          clear hc
          generalize (zj.getD l zeroSpec).s = sl at hcl hsl HSL
          have hl0 : (0 : Int) ≤ (l : Int) := by omega
          have hl1 : (l : Int) < (ni : Int) := by omega
          go_wp2_with fail
          all_goals first
            | (go_ret; exact ⟨_, rfl, rfl, fun h => Bool.noConfusion h⟩)
            | (go_roundg (ni - (l + 1))
               case measure => rw [KI.out]; omega
               case rel => exact ⟨l + 1, q + sl.size, rfl, by omega, by omega, by go_num, by go_num, rfl, rfl, Lib.hid (by rw [HSL.out, HQ.out]; omega)⟩)
        · have hfin : zj.take l = zj := List.take_of_length_le (by rw [HLI.out]; omega)
          have hqq := HQ.out
          rw [hfin] at hqq
          have HQQ := Lib.hid hqq
          clear hqq hfin HQ
          go_wp2_with fail
          go_roundg (n1 - (j + 1))
          case measure => rw [KK.out]; omega
          case rel => exact ⟨j + 1, q, rfl, by omega, by omega, by go_num, by go_num, rfl, rfl, Lib.hid (by have a := HS.out; have b := HQQ.out; have c := HMI.out; have d := HM.out; have e := HLI.out; omega)⟩
    · have hfin : z1.take j = z1 := List.take_of_length_le (by rw [HL1.out]; omega)
      have hmm := HM.out
      rw [hfin] at hmm
      have HMM1 := Lib.hid hmm
      clear hmm hfin HM
      go_wp2_with fail
      all_goals try (go_ret; exact ⟨_, rfl, rfl, fun h => Bool.noConfusion h⟩)
      obtain ⟨m2, hm2⟩ : ∃ m2, m2 = m + n2 := ⟨_, rfl⟩
      have hm3 : m2 ≤ 1048576 := by omega
      rw [show (m : Int) + (n2 : Int) = (m2 : Int) by omega]
      have HM2 := Lib.hid hm2; clear hm2
      go_loopg [4, 5, 8] n2 (fun k u z i wq => ∃ j m : Nat, k = n2 - j ∧ j ≤ n2 ∧ m ≤ 1048576 ∧ z = .int .i64 m ∧ i = .int .i64 j ∧ wq = wr ∧ u = .bool false ∧ Hid (m = m2 + sumA (z2.take j)))
      case atStart => exact ⟨0, m2, rfl, Nat.zero_le _, by omega, rfl, rfl, rfl, rfl, Lib.hid rfl⟩
      case round =>
        obtain ⟨j, m, hk, hj, hm, rfl, rfl, rfl, rfl, HM⟩ := hrel
        have KK := Lib.hid hk; clear hk
        by_cases hlt : j < n2
        · rcases HV2.out.split with h | ⟨b, off, rfl, hc⟩
          · exfalso; omega
          obtain ⟨Ai, ni, ci, hcj, hsi⟩ := hc.out j hlt
          have hni := hsi.2.1
          unfold maxLen at hni
          have HLI := Lib.hid hsi.1
          have HSI := Lib.hid hsi
          have HS := Lib.hid (sumA_snoc z2 j (by rw [HL2.out]; exact hlt))
          clear hc hsi
          obtain ⟨zj, hzj⟩ : ∃ x, x = z2.getD j [] := ⟨_, rfl⟩
          rw [← hzj] at HLI HSI HS
          clear hzj
          have hi0 : (0 : Int) ≤ (j : Int) := by omega
          have hi1 : (j : Int) < (n2 : Int) := by omega
          go_wp2_with fail
          all_goals try (go_ret; exact ⟨_, rfl, rfl, fun h => Bool.noConfusion h⟩)
          obtain ⟨mi, hmi⟩ : ∃ mi, mi = m + ni := ⟨_, rfl⟩
          have hmi3 : mi ≤ 1048576 := by omega
          rw [show (m : Int) + (ni : Int) = (mi : Int) by omega]
          have HMI := Lib.hid hmi; clear hmi
          go_loopg [4, 5, 9] ni (fun k u z i wx => ∃ l q : Nat, k = ni - l ∧ l ≤ ni ∧ q ≤ 1048576 ∧ z = .int .i64 q ∧ i = .int .i64 l ∧ wx = wr ∧ u = .bool false ∧ Hid (q = mi + sumS (zj.take l)))
          case atStart => exact ⟨0, mi, rfl, Nat.zero_le _, by omega, rfl, rfl, rfl, rfl, Lib.hid rfl⟩
          case round =>
            obtain ⟨l, q, hk, hl, hq, rfl, rfl, rfl, rfl, HQ⟩ := hrel
            have KI := Lib.hid hk; clear hk
            by_cases hlt2 : l < ni
            · rcases HSI.out.split with h | ⟨b2, off2, rfl, hc⟩
              · exfalso; omega
              obtain ⟨-, hcl, -⟩ := hc.out l hlt2
              have hsl := (HSI.out.okAt l).2.1
              unfold maxLen at hsl
              have HSL := Lib.hid (sumS_snoc zj l (by rw [HLI.out]; exact hlt2))
              clear hc
              generalize (zj.getD l zeroSpec).s = sl at hcl hsl HSL
              have hl0 : (0 : Int) ≤ (l : Int) := by omega
              have hl1 : (l : Int) < (ni : Int) := by omega
              go_wp2_with fail
              all_goals first
                | (go_ret; exact ⟨_, rfl, rfl, fun h => Bool.noConfusion h⟩)
                | (go_roundg (ni - (l + 1))
                   case measure => rw [KI.out]; omega
                   case rel => exact ⟨l + 1, q + sl.size, rfl, by omega, by omega, by go_num, by go_num, rfl, rfl, Lib.hid (by rw [HSL.out, HQ.out]; omega)⟩)
            · have hfin : zj.take l = zj := List.take_of_length_le (by rw [HLI.out]; omega)
              have hqq := HQ.out
              rw [hfin] at hqq
              have HQQ := Lib.hid hqq
              clear hqq hfin HQ
              go_wp2_with fail
              go_roundg (n2 - (j + 1))
              case measure => rw [KK.out]; omega
              case rel => exact ⟨j + 1, q, rfl, by omega, by omega, by go_num, by go_num, rfl, rfl, Lib.hid (by have a := HS.out; have b := HQQ.out; have c := HMI.out; have d := HM.out; have e := HLI.out; omega)⟩
        · have hfin : z2.take j = z2 := List.take_of_length_le (by rw [HL2.out]; omega)
          have hmm := HM.out
          rw [hfin] at hmm
          have HMM2 := Lib.hid hmm
          clear hmm hfin HM
          go_wp2_with fail
          go_ret
          exact ⟨_, rfl, rfl, fun _ => by have a := HMM1.out; have b := HM2.out; have c := HMM2.out; have d := HL1.out; have e := HL2.out; omega⟩

set_option maxRecDepth 100000 in
theorem counts (A1 : Option Addr) (n1 c1 : Nat) (z1 : List (List Spec)) (w : World) (hv : Alts Specs w A1 n1 z1) (h1 : n1 ≤ 65536) :
    Calls Try.prog 28 #[.slice A1 n1 c1] w (fun e w' => ∃ b, e = .returned (.bool b) ∧ w = w' ∧ (b = true → ∀ i, i < n1 → (z1.getD i []).length ≤ 4096)) := by
  have HV := Lib.hid hv
  clear hv
  go_enter Try.func28, Try.ntmps28
  go_wp2_with fail
  go_loopg [2, 3] n1 (fun k u i wr => ∃ j : Nat, k = n1 - j ∧ j ≤ n1 ∧ i = .int .i64 j ∧ wr = w ∧ u = .bool false ∧ Hid (∀ i, i < j → (z1.getD i []).length ≤ 4096))
  case atStart => exact ⟨0, rfl, Nat.zero_le _, rfl, rfl, rfl, Lib.hid fun i hi => absurd hi (Nat.not_lt_zero _)⟩
  case round =>
    obtain ⟨j, hk, hj, rfl, rfl, rfl, HM⟩ := hrel
    have KK := Lib.hid hk; clear hk
    by_cases hlt : j < n1
    · rcases HV.out.split with h | ⟨b, off, rfl, hc⟩
      · exfalso; omega
      obtain ⟨Ai, ni, ci, hcj, hsi⟩ := hc.out j hlt
      have HLI := Lib.hid hsi.1
      have hni := hsi.2.1
      unfold maxLen at hni
      clear hc hsi
      have hi0 : (0 : Int) ≤ (j : Int) := by omega
      have hi1 : (j : Int) < (n1 : Int) := by omega
      go_wp2_with fail
      all_goals first
        | (go_ret; exact ⟨_, rfl, rfl, fun h => Bool.noConfusion h⟩)
        | (go_roundg (n1 - (j + 1))
           case measure => rw [KK.out]; omega
           case rel =>
             refine ⟨j + 1, rfl, by omega, by go_num, rfl, rfl, Lib.hid fun i hi => ?_⟩
             rcases Nat.lt_or_ge i j with g | g
             · exact HM.out i g
             · obtain rfl : i = j := by omega
               rw [HLI.out]; omega)
    · go_wp2_with fail
      go_ret
      exact ⟨_, rfl, rfl, fun _ i hi => HM.out i (by omega)⟩
set_option maxRecDepth 100000 in
theorem altsBytes (A1 : Option Addr) (n1 c1 : Nat) (z1 : List (List Spec)) (w : World) (hv : Alts Specs w A1 n1 z1) (hs : sumA z1 ≤ 1048576) (h1 : n1 ≤ 4096) (hin : ∀ i, i < n1 → (z1.getD i []).length ≤ 4096) :
    Calls Try.prog 29 #[.slice A1 n1 c1] w (fnSequenceStringSplitsAtConcatenation.Count w) := by
  have HV := Lib.hid hv
  have HIN := Lib.hid hin
  clear hv hin
  go_enter Try.func29, Try.ntmps29
  go_wp2_with fail
  go_loopg [2, 3, 4] n1 (fun k u z i wr => ∃ j m : Nat, k = n1 - j ∧ j ≤ n1 ∧ m ≤ 1048576 ∧ z = .int .i64 m ∧ i = .int .i64 j ∧ wr = w ∧ u = .int .i64 0)
  case atStart => exact ⟨0, 0, rfl, Nat.zero_le _, by omega, rfl, rfl, rfl, rfl⟩
  case round =>
    obtain ⟨j, m, hk, hj, hm, rfl, rfl, rfl, rfl⟩ := hrel
    have KK := Lib.hid hk; clear hk
    by_cases hlt : j < n1
    · rcases HV.out.split with h | ⟨b, off, rfl, hc⟩
      · exfalso; omega
      obtain ⟨Ai, ni, ci, hcj, hsi⟩ := hc.out j hlt
      have hni := HIN.out j hlt
      rw [hsi.1] at hni
      have hsj : sumS (z1.getD j []) ≤ 1048576 := by have := sumA_get z1 j; omega
      have HSJ := Lib.hid hsj
      have HSI := Lib.hid hsi
      clear hc hsi hsj
      have hi0 : (0 : Int) ≤ (j : Int) := by omega
      have hi1 : (j : Int) < (n1 : Int) := by omega
      go_wp2_with fail
      refine (fnSequenceStringSplitsAtConcatenation.specBytes Ai ni ci _ _ HSI.out HSJ.out hni).mono ?_
      rintro e w1 ⟨r, rfl, hr, rfl⟩
      go_wp2_with fail
      all_goals first
        | (go_ret; exact ⟨1048577, rfl, by omega, rfl⟩)
        | (go_roundg (n1 - (j + 1))
           case measure => rw [KK.out]; omega
           case rel => exact ⟨j + 1, m + (24 + r), rfl, by omega, by omega, by go_num, by go_num, rfl, rfl⟩)
    · go_wp2_with fail
      all_goals (go_ret; exact ⟨m, rfl, by omega, rfl⟩)
end fnExpressionStringSplitsAtConcatenation
end Go.Proofs.Ytjneojglklbbfaa
