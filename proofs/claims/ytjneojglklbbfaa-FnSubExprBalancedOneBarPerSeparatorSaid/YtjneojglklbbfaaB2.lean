/-
  Contracts for FnExpressionStringDecodesToAlternatives: the bound's test and the count of bytes. Conditions: none beyond the statement's own.
-/
import Derived.Test.YtjneojglklbbfaaB1
namespace Go.Proofs.Ytjneojglklbbfaa
open Go.RowKit
set_option linter.unusedSimpArgs false
set_option linter.unusedVariables false
namespace fnExpressionStringDecodesToAlternatives
def ZZPost (w : World) (z : List (List ByteArray)) (e : Ending) (w' : World) : Prop := ∃ b, e = .returned (.bool b) ∧ w = w' ∧ (b = true → z.length + sumN z ≤ 1048576)
set_option maxHeartbeats 4000000 in
set_option maxRecDepth 100000 in
theorem zz (A1 : Option Addr) (n1 c1 : Nat) (z1 : List (List ByteArray)) (w : World) (hv : Alts Strs w A1 n1 z1) : Calls Try.prog 47 #[.slice A1 n1 c1] w (ZZPost w z1) := by
  have h1 := hv.2.1
  have HL1 := Lib.hid hv.1
  have HV1 := Lib.hid hv
  unfold maxLen at h1
  clear hv
  go_enter Try.func47, Try.ntmps47
  go_wp2_with fail
  all_goals try (go_ret; exact ⟨_, rfl, rfl, fun h => Bool.noConfusion h⟩)
  go_loopg [2, 3, 4] n1 (fun k u z i wq => ∃ j m : Nat, k = n1 - j ∧ j ≤ n1 ∧ m ≤ 1048576 ∧ z = .int .i64 m ∧ i = .int .i64 j ∧ wq = w ∧ u = .bool false ∧ Hid (m = n1 + sumN (z1.take j)))
  case atStart => exact ⟨0, n1, rfl, Nat.zero_le _, by omega, rfl, rfl, rfl, rfl, Lib.hid rfl⟩
  case round =>
    obtain ⟨j, m, hk, hj, hm, rfl, rfl, rfl, rfl, HM⟩ := hrel
    have KK := Lib.hid hk; clear hk
    by_cases hlt : j < n1
    · rcases HV1.out.split with h | ⟨b, off, rfl, hc⟩
      · exfalso; omega
      obtain ⟨Ai, ni, ci, hcj, hsi⟩ := hc.out j hlt
      have hni := hsi.2.1
      unfold maxLen at hni
      have HLI := Lib.hid hsi.1
      have HSI := Lib.hid hsi
      have HS := Lib.hid (sumN_snoc z1 j (by rw [HL1.out]; exact hlt))
      clear hc hsi
      obtain ⟨zj, hzj⟩ : ∃ x, x = z1.getD j [] := ⟨_, rfl⟩
      rw [← hzj] at HLI HSI HS
      clear hzj
      have hi0 : (0 : Int) ≤ (j : Int) := by omega
      have hi1 : (j : Int) < (n1 : Int) := by omega
      go_wp2_with fail
      all_goals try (go_ret; exact ⟨_, rfl, rfl, fun h => Bool.noConfusion h⟩)
      obtain ⟨mi, hmi⟩ : ∃ mi, mi = m + ni := ⟨_, rfl⟩
      have hmi3 : mi ≤ 1048576 := by omega
      rw [show (m : Int) + (ni : Int) = (mi : Int) by omega]
      have HMI := Lib.hid hmi; clear hmi
      go_loopg [2, 3, 5] ni (fun k u z i wx => ∃ l q : Nat, k = ni - l ∧ l ≤ ni ∧ q ≤ 1048576 ∧ z = .int .i64 q ∧ i = .int .i64 l ∧ wx = wr ∧ u = .bool false ∧ Hid (q = mi + PS.sumB (zj.take l)))
      case atStart => exact ⟨0, mi, rfl, Nat.zero_le _, by omega, rfl, rfl, rfl, rfl, Lib.hid rfl⟩
      case round =>
        obtain ⟨l, q, hk, hl, hq, rfl, rfl, rfl, rfl, HQ⟩ := hrel
        have KI := Lib.hid hk; clear hk
        by_cases hlt2 : l < ni
        · rcases HSI.out.split with h | ⟨b2, off2, rfl, hc⟩
          · exfalso; omega
          have hcl := hc.out l hlt2
          have hsl := HSI.out.size l
          have HSL := Lib.hid (PS.sumB_snoc zj l (by rw [HLI.out]; exact hlt2))
          clear hc
          generalize zj.getD l ByteArray.empty = sl at hcl hsl HSL
          have hl0 : (0 : Int) ≤ (l : Int) := by omega
          have hl1 : (l : Int) < (ni : Int) := by omega
          go_wp2_with fail
          all_goals first
            | (go_ret; exact ⟨_, rfl, rfl, fun h => Bool.noConfusion h⟩)
            | (go_roundg (ni - (l + 1))
               case measure => rw [KI.out]; omega
               case rel => exact ⟨l + 1, q + sl.size, rfl, by omega, by omega, by go_num, by go_num, rfl, rfl, Lib.hid (by rw [HSL.out, HQ.out]; omega)⟩)
        · have hfin : zj.take l = zj := List.take_of_length_le (by rw [HLI.out]; omega)
          have hqq := HQ.out
          rw [hfin] at hqq
          have HQQ := Lib.hid hqq
          clear hqq hfin HQ
          go_wp2_with fail
          go_roundg (n1 - (j + 1))
          case measure => rw [KK.out]; omega
          case rel => exact ⟨j + 1, q, rfl, by omega, by omega, by go_num, by go_num, rfl, rfl, Lib.hid (by have a := HS.out; have b := HQQ.out; have c := HMI.out; have d := HM.out; have e := HLI.out; omega)⟩
    · have hfin : z1.take j = z1 := List.take_of_length_le (by rw [HL1.out]; omega)
      have hmm := HM.out
      rw [hfin] at hmm
      have HMM1 := Lib.hid hmm
      clear hmm hfin HM
      go_wp2_with fail
      go_ret
      exact ⟨_, rfl, rfl, fun _ => by have a := HMM1.out; have d := HL1.out; omega⟩
set_option maxRecDepth 100000 in
theorem altsBytes (A1 : Option Addr) (n1 c1 : Nat) (z1 : List (List ByteArray)) (w : World) (hv : Alts Strs w A1 n1 z1) (hs : sumN z1 ≤ 1048576) (h1 : n1 ≤ 4096) (hin : ∀ i, i < n1 → (z1.getD i []).length ≤ 4096) :
    Calls Try.prog 48 #[.slice A1 n1 c1] w (fnSequenceStringDecodesToTerms.Count w) := by
  have HV := Lib.hid hv
  have HIN := Lib.hid hin
  clear hv hin
  go_enter Try.func48, Try.ntmps48
  go_wp2_with fail
  go_loopg [2, 3, 4] n1 (fun k u z i wr => ∃ j m : Nat, k = n1 - j ∧ j ≤ n1 ∧ m ≤ 1048576 ∧ z = .int .i64 m ∧ i = .int .i64 j ∧ wr = w ∧ u = .int .i64 0)
  case atStart => exact ⟨0, 0, rfl, Nat.zero_le _, by omega, rfl, rfl, rfl, rfl⟩
  case round =>
    obtain ⟨j, m, hk, hj, hm, rfl, rfl, rfl, rfl⟩ := hrel
    have KK := Lib.hid hk; clear hk
    by_cases hlt : j < n1
    · rcases HV.out.split with h | ⟨b, off, rfl, hc⟩
      · exfalso; omega
      obtain ⟨Ai, ni, ci, hcj, hsi⟩ := hc.out j hlt
      have hni := HIN.out j hlt
      rw [hsi.1] at hni
      have hsj : PS.sumB (z1.getD j []) ≤ 1048576 := by have := sumN_get z1 j; omega
      have HSJ := Lib.hid hsj
      have HSI := Lib.hid hsi
      clear hc hsi hsj
      have hi0 : (0 : Int) ≤ (j : Int) := by omega
      have hi1 : (j : Int) < (n1 : Int) := by omega
      go_wp2_with fail
      refine (fnSequenceStringDecodesToTerms.strBytes Ai ni ci _ _ HSI.out HSJ.out hni).mono ?_
      rintro e w1 ⟨r, rfl, hr, rfl⟩
      go_wp2_with fail
      all_goals first
        | (go_ret; exact ⟨1048577, rfl, by omega, rfl⟩)
        | (go_roundg (n1 - (j + 1))
           case measure => rw [KK.out]; omega
           case rel => exact ⟨j + 1, m + (24 + r), rfl, by omega, by omega, by go_num, by go_num, rfl, rfl⟩)
    · go_wp2_with fail
      all_goals (go_ret; exact ⟨m, rfl, by omega, rfl⟩)
end fnExpressionStringDecodesToAlternatives
end Go.Proofs.Ytjneojglklbbfaa
