/-
  Contracts for FnSubExprBalancedOneBarPerSeparator: the bound's test, the count of bytes, the names' tests. Conditions: none beyond the statement's own.
-/
import Derived.Test.YtjneojglklbbfaaC1
namespace Go.Proofs.Ytjneojglklbbfaa
open Go.RowKit
set_option linter.unusedSimpArgs false
set_option linter.unusedVariables false
namespace fnSubExprBalancedOneBarPerSeparator
def ZZPost (w : World) (z : List (List ByteArray)) (e : Ending) (w' : World) : Prop := ∃ b, e = .returned (.bool b) ∧ w = w' ∧ (b = true → z.length + sumN z ≤ 1048576)
set_option maxHeartbeats 4000000 in
set_option maxRecDepth 100000 in
theorem zz (A1 : Option Addr) (n1 c1 : Nat) (z1 : List (List ByteArray)) (la : Int) (w : World) (hv : Alts Strs w A1 n1 z1) : Calls Try.prog 16 #[.slice A1 n1 c1, .int .i32 la] w (ZZPost w z1) := by
  have h1 := hv.2.1
  have HL1 := Lib.hid hv.1
  have HV1 := Lib.hid hv
  unfold maxLen at h1
  clear hv
  go_enter Try.func16, Try.ntmps16
  go_wp2_with fail
  all_goals try (go_ret; exact ⟨_, rfl, rfl, fun h => Bool.noConfusion h⟩)
  go_loopg [4, 5, 6] n1 (fun k u z i wq => ∃ j m : Nat, k = n1 - j ∧ j ≤ n1 ∧ m ≤ 1048576 ∧ z = .int .i64 m ∧ i = .int .i64 j ∧ wq = w ∧ u = .bool false ∧ Hid (m = n1 + sumN (z1.take j)))
  case atStart => exact ⟨0, n1, rfl, Nat.zero_le _, by omega, rfl, rfl, rfl, rfl, Lib.hid rfl⟩
  case round =>
    obtain ⟨j, m, hk, hj, hm, rfl, rfl, rfl, rfl, HM⟩ := hrel
    have KK := Lib.hid hk; clear hk
    by_cases hlt : j < n1
    · rcases HV1.out.split with h | ⟨b, off, rfl, hc⟩
      · exfalso; omega
      obtain ⟨Ai, ni, ci, hcj, hsi⟩ := hc.out j hlt
      have hni := hsi.2.1
      unfold maxLen at hni
      have HLI := Lib.hid hsi.1
      have HSI := Lib.hid hsi
      have HS := Lib.hid (sumN_snoc z1 j (by rw [HL1.out]; exact hlt))
      clear hc hsi
      obtain ⟨zj, hzj⟩ : ∃ x, x = z1.getD j [] := ⟨_, rfl⟩
      rw [← hzj] at HLI HSI HS
      clear hzj
      have hi0 : (0 : Int) ≤ (j : Int) := by omega
      have hi1 : (j : Int) < (n1 : Int) := by omega
      go_wp2_with fail
      all_goals try (go_ret; exact ⟨_, rfl, rfl, fun h => Bool.noConfusion h⟩)
      obtain ⟨mi, hmi⟩ : ∃ mi, mi = m + ni := ⟨_, rfl⟩
      have hmi3 : mi ≤ 1048576 := by omega
      rw [show (m : Int) + (ni : Int) = (mi : Int) by omega]
      have HMI := Lib.hid hmi; clear hmi
      go_loopg [4, 5, 7] ni (fun k u z i wx => ∃ l q : Nat, k = ni - l ∧ l ≤ ni ∧ q ≤ 1048576 ∧ z = .int .i64 q ∧ i = .int .i64 l ∧ wx = wr ∧ u = .bool false ∧ Hid (q = mi + PS.sumB (zj.take l)))
      case atStart => exact ⟨0, mi, rfl, Nat.zero_le _, by omega, rfl, rfl, rfl, rfl, Lib.hid rfl⟩
      case round =>
        obtain ⟨l, q, hk, hl, hq, rfl, rfl, rfl, rfl, HQ⟩ := hrel
        have KI := Lib.hid hk; clear hk
        by_cases hlt2 : l < ni
        · rcases HSI.out.split with h | ⟨b2, off2, rfl, hc⟩
          · exfalso; omega
          have hcl := hc.out l hlt2
          have hsl := HSI.out.size l
          have HSL := Lib.hid (PS.sumB_snoc zj l (by rw [HLI.out]; exact hlt2))
          clear hc
          generalize zj.getD l ByteArray.empty = sl at hcl hsl HSL
          have hl0 : (0 : Int) ≤ (l : Int) := by omega
          have hl1 : (l : Int) < (ni : Int) := by omega
          go_wp2_with fail
          all_goals first
            | (go_ret; exact ⟨_, rfl, rfl, fun h => Bool.noConfusion h⟩)
            | (go_roundg (ni - (l + 1))
               case measure => rw [KI.out]; omega
               case rel => exact ⟨l + 1, q + sl.size, rfl, by omega, by omega, by go_num, by go_num, rfl, rfl, Lib.hid (by rw [HSL.out, HQ.out]; omega)⟩)
        · have hfin : zj.take l = zj := List.take_of_length_le (by rw [HLI.out]; omega)
          have hqq := HQ.out
          rw [hfin] at hqq
          have HQQ := Lib.hid hqq
          clear hqq hfin HQ
          go_wp2_with fail
          go_roundg (n1 - (j + 1))
          case measure => rw [KK.out]; omega
          case rel => exact ⟨j + 1, q, rfl, by omega, by omega, by go_num, by go_num, rfl, rfl, Lib.hid (by have a := HS.out; have b := HQQ.out; have c := HMI.out; have d := HM.out; have e := HLI.out; omega)⟩
    · have hfin : z1.take j = z1 := List.take_of_length_le (by rw [HL1.out]; omega)
      have hmm := HM.out
      rw [hfin] at hmm
      have HMM1 := Lib.hid hmm
      clear hmm hfin HM
      go_wp2_with fail
      go_ret
      exact ⟨_, rfl, rfl, fun _ => by have a := HMM1.out; have d := HL1.out; omega⟩
/-- A count, small. -/
def Small (w : World) (e : Ending) (w' : World) : Prop := ∃ r : Nat, e = .returned (.int .i64 r) ∧ r ≤ 2000000 ∧ w = w'
set_option maxRecDepth 100000 in
theorem size_any (A1 : Option Addr) (n1 c1 : Nat) (z1 : List (List ByteArray)) (w : World) (hv : Alts Strs w A1 n1 z1) (hs : sumN z1 ≤ 1048576) : Calls Try.prog 17 #[.slice A1 n1 c1, .string ⟨#[]⟩] w (Small w) := by
  have h1 := hv.2.1
  unfold maxLen at h1
  have HV := Lib.hid hv
  have esz : ((⟨#[]⟩ : ByteArray)).size = 0 := rfl
  clear hv
  go_enter Try.func17, Try.ntmps17
  go_wp2_with fail
  go_loopg [4, 5, 6] n1 (fun k u z i wq => ∃ j m : Nat, k = n1 - j ∧ j ≤ n1 ∧ m ≤ 65536 ∧ z = .int .i64 m ∧ i = .int .i64 j ∧ wq = w ∧ u = .int .i64 0)
  case atStart => exact ⟨0, 40, rfl, Nat.zero_le _, by omega, rfl, rfl, rfl, rfl⟩
  case round =>
    obtain ⟨j, m, hk, hj, hm, rfl, rfl, rfl, rfl⟩ := hrel
    have KK := Lib.hid hk; clear hk
    by_cases hlt : j < n1
    · rcases HV.out.split with h | ⟨b, off, rfl, hc⟩
      · exfalso; omega
      obtain ⟨Ai, ni, ci, hcj, hsi⟩ := hc.out j hlt
      have hni := hsi.2.1
      unfold maxLen at hni
      have HLI := Lib.hid hsi.1
      have HSI := Lib.hid hsi
      have hsb := sumN_get z1 j
      obtain ⟨zj, hzj⟩ : ∃ x, x = z1.getD j [] := ⟨_, rfl⟩
      rw [← hzj] at HLI HSI hsb
      have HSB := Lib.hid hsb
      clear hc hsi hzj hsb
      have hi0 : (0 : Int) ≤ (j : Int) := by omega
      have hi1 : (j : Int) < (n1 : Int) := by omega
      go_wp2_with fail
      go_loopg [4, 5, 7] ni (fun k u z i wx => ∃ l q : Nat, k = ni - l ∧ l ≤ ni ∧ q ≤ 65560 ∧ z = .int .i64 q ∧ i = .int .i64 l ∧ wx = wr ∧ u = .int .i64 0)
      case atStart => exact ⟨0, m + 24, rfl, Nat.zero_le _, by omega, by go_num, rfl, rfl, rfl⟩
      case round =>
        obtain ⟨l, q, hk, hl, hq, rfl, rfl, rfl, rfl⟩ := hrel
        have KI := Lib.hid hk; clear hk
        by_cases hlt2 : l < ni
        · rcases HSI.out.split with h | ⟨b2, off2, rfl, hc⟩
          · exfalso; omega
          have hcl := hc.out l hlt2
          have hsl := Nat.le_trans (PS.sumB_get zj l (by rw [HLI.out]; exact hlt2)) (show PS.sumB zj ≤ 1048576 by have := HSB.out; omega)
          clear hc
          generalize zj.getD l ByteArray.empty = sl at hcl hsl
          have hl0 : (0 : Int) ≤ (l : Int) := by omega
          have hl1 : (l : Int) < (ni : Int) := by omega
          go_wp2_with fail
          all_goals first
            | (go_ret; exact ⟨q + (16 + sl.size), by go_num, by omega, rfl⟩)
            | (go_roundg (ni - (l + 1))
               case measure => rw [KI.out]; omega
               case rel => exact ⟨l + 1, q + (16 + sl.size), rfl, by omega, by omega, by go_num, by go_num, rfl, rfl⟩)
        · go_wp2_with fail
          all_goals first
            | (go_ret; exact ⟨q, rfl, by omega, rfl⟩)
            | (go_roundg (n1 - (j + 1))
               case measure => rw [KK.out]; omega
               case rel => exact ⟨j + 1, q, rfl, by omega, by omega, by go_num, by go_num, rfl, rfl⟩)
    · go_wp2_with fail
      go_ret
      exact ⟨m, rfl, by omega, rfl⟩
def Pos (s : ByteArray) : Prop := 0 < s.size
/-- The first m bytes are no parenthesis and no bar. -/
def NoTo (s : ByteArray) (m : Nat) : Prop := 40 ∉ s.data.toList.take m ∧ 41 ∉ s.data.toList.take m ∧ 124 ∉ s.data.toList.take m
theorem byte_ne {x c : UInt8} {v : Int} (h : ¬ x = c) (hv : (c.toNat : Int) = v := by rfl) : ((x.toNat : Int) == v) = false := by
  rw [← hv, PS.u8_int]; simpa using h
theorem NoTo.step {s : ByteArray} {m : Nat} (h : NoTo s m) (hm : m < s.size) (h1 : ¬ s[m] = 40) (h2 : ¬ s[m] = 41) (h3 : ¬ s[m] = 124) : NoTo s (m + 1) := by
  unfold NoTo
  rw [PS.take_snoc8 s m hm]
  simp only [List.mem_append, List.mem_singleton, not_or]
  exact ⟨⟨h.1, fun e => h1 e.symm⟩, ⟨h.2.1, fun e => h2 e.symm⟩, ⟨h.2.2, fun e => h3 e.symm⟩⟩
theorem NoTo.full {s : ByteArray} {m : Nat} (h : NoTo s m) (hm : s.size ≤ m) : NoSp s := by
  unfold NoTo at h
  rw [List.take_of_length_le (by simpa using hm)] at h
  exact ⟨cnt_zero.2 h.1, cnt_zero.2 h.2.1, cnt_zero.2 h.2.2⟩
set_option maxRecDepth 100000 in
theorem nonEmpty (A1 : Option Addr) (n1 c1 : Nat) (z1 : List (List ByteArray)) (w : World) (hv : Alts Strs w A1 n1 z1) :
    Calls Try.prog 18 #[.slice A1 n1 c1] w (fun e w' => ∃ b, e = .returned (.bool b) ∧ w = w' ∧ (b = true → ∀ i, i < n1 → ∀ k, k < (z1.getD i []).length → Pos ((z1.getD i []).getD k ByteArray.empty))) := by
  have h1 := hv.2.1
  unfold maxLen at h1
  have HV := Lib.hid hv
  clear hv
  go_enter Try.func18, Try.ntmps18
  go_wp2_with fail
  go_loopg [2, 3] n1 (fun k u i wq => ∃ j : Nat, k = n1 - j ∧ j ≤ n1 ∧ i = .int .i64 j ∧ wq = w ∧ u = .bool false ∧ Hid (∀ i, i < j → ∀ k, k < (z1.getD i []).length → Pos ((z1.getD i []).getD k ByteArray.empty)))
  case atStart => exact ⟨0, rfl, Nat.zero_le _, rfl, rfl, rfl, Lib.hid fun i hi => absurd hi (Nat.not_lt_zero _)⟩
  case round =>
    obtain ⟨j, hk, hj, rfl, rfl, rfl, HM⟩ := hrel
    have KK := Lib.hid hk; clear hk
    by_cases hlt : j < n1
    · rcases HV.out.split with h | ⟨b, off, rfl, hc⟩
      · exfalso; omega
      obtain ⟨Ai, ni, ci, hcj, hsi⟩ := hc.out j hlt
      have hni := hsi.2.1
      unfold maxLen at hni
      have HLI := Lib.hid hsi.1
      have HSI := Lib.hid hsi
      obtain ⟨zj, hzj⟩ : ∃ x, x = z1.getD j [] := ⟨_, rfl⟩
      have HMN : Hid ((∀ k, k < zj.length → Pos (zj.getD k ByteArray.empty)) → ∀ i, i < j + 1 → ∀ k, k < (z1.getD i []).length → Pos ((z1.getD i []).getD k ByteArray.empty)) := fun h i hi => by
        rcases Nat.lt_or_ge i j with g | g
        · exact HM.out i g
        · obtain rfl : i = j := by omega
          rw [← hzj]; exact h
      rw [← hzj] at HLI HSI
      clear hc hsi hzj
      have hi0 : (0 : Int) ≤ (j : Int) := by omega
      have hi1 : (j : Int) < (n1 : Int) := by omega
      go_wp2_with fail
      go_loopg [2, 4] ni (fun k u i wx => ∃ l : Nat, k = ni - l ∧ l ≤ ni ∧ i = .int .i64 l ∧ wx = wr ∧ u = .bool false ∧ Hid (∀ k, k < l → Pos (zj.getD k ByteArray.empty)))
      case atStart => exact ⟨0, rfl, Nat.zero_le _, rfl, rfl, rfl, Lib.hid fun i hi => absurd hi (Nat.not_lt_zero _)⟩
      case round =>
        obtain ⟨l, hk, hl, rfl, rfl, rfl, HP⟩ := hrel
        have KI := Lib.hid hk; clear hk
        by_cases hlt2 : l < ni
        · rcases HSI.out.split with h | ⟨b2, off2, rfl, hc⟩
          · exfalso; omega
          have hcl := hc.out l hlt2
          have hsl := HSI.out.size l
          have HPN : Hid (Pos (zj.getD l ByteArray.empty) → ∀ k, k < l + 1 → Pos (zj.getD k ByteArray.empty)) := fun h i hi => by
            rcases Nat.lt_or_ge i l with g | g
            · exact HP.out i g
            · obtain rfl : i = l := by omega
              exact h
          clear hc
          generalize zj.getD l ByteArray.empty = sl at hcl HPN hsl
          have hl0 : (0 : Int) ≤ (l : Int) := by omega
          have hl1 : (l : Int) < (ni : Int) := by omega
          by_cases h0 : sl.size = 0
          · have he : sl.toList.isEmpty = true := by rw [toList_empty]; simpa using h0
            go_wp2_with fail
            go_ret
            exact ⟨_, rfl, rfl, fun h => Bool.noConfusion h⟩
          · have he : sl.toList.isEmpty = false := by rw [toList_empty]; simpa using h0
            have HPM := Lib.hid (HPN.out (show Pos sl from Nat.pos_of_ne_zero h0))
            clear h0
            go_wp2_with fail
            go_roundg (ni - (l + 1))
            case measure => rw [KI.out]; omega
            case rel => exact ⟨l + 1, rfl, by omega, by go_num, rfl, rfl, HPM⟩
        · obtain rfl : ni = l := by omega
          have HMM := Lib.hid (HMN.out (by rw [HLI.out]; exact HP.out))
          go_wp2_with fail
          go_roundg (n1 - (j + 1))
          case measure => rw [KK.out]; omega
          case rel => exact ⟨j + 1, rfl, by omega, by go_num, rfl, rfl, HMM⟩
    · obtain rfl : n1 = j := by omega
      go_wp2_with fail
      go_ret
      exact ⟨_, rfl, rfl, fun _ => HM.out⟩
set_option maxRecDepth 100000 in
theorem noSpecial (A1 : Option Addr) (n1 c1 : Nat) (z1 : List (List ByteArray)) (w : World) (hv : Alts Strs w A1 n1 z1) :
    Calls Try.prog 19 #[.slice A1 n1 c1] w (fun e w' => ∃ b, e = .returned (.bool b) ∧ w = w' ∧ (b = true → ∀ i, i < n1 → ∀ k, k < (z1.getD i []).length → NoSp ((z1.getD i []).getD k ByteArray.empty))) := by
  have h1 := hv.2.1
  unfold maxLen at h1
  have HV := Lib.hid hv
  clear hv
  go_enter Try.func19, Try.ntmps19
  go_wp2_with fail
  go_loopg [2, 3] n1 (fun k u i wq => ∃ j : Nat, k = n1 - j ∧ j ≤ n1 ∧ i = .int .i64 j ∧ wq = w ∧ u = .bool false ∧ Hid (∀ i, i < j → ∀ k, k < (z1.getD i []).length → NoSp ((z1.getD i []).getD k ByteArray.empty)))
  case atStart => exact ⟨0, rfl, Nat.zero_le _, rfl, rfl, rfl, Lib.hid fun i hi => absurd hi (Nat.not_lt_zero _)⟩
  case round =>
    obtain ⟨j, hk, hj, rfl, rfl, rfl, HM⟩ := hrel
    have KK := Lib.hid hk; clear hk
    by_cases hlt : j < n1
    · rcases HV.out.split with h | ⟨b, off, rfl, hc⟩
      · exfalso; omega
      obtain ⟨Ai, ni, ci, hcj, hsi⟩ := hc.out j hlt
      have hni := hsi.2.1
      unfold maxLen at hni
      have HLI := Lib.hid hsi.1
      have HSI := Lib.hid hsi
      obtain ⟨zj, hzj⟩ : ∃ x, x = z1.getD j [] := ⟨_, rfl⟩
      have HMN : Hid ((∀ k, k < zj.length → NoSp (zj.getD k ByteArray.empty)) → ∀ i, i < j + 1 → ∀ k, k < (z1.getD i []).length → NoSp ((z1.getD i []).getD k ByteArray.empty)) := fun h i hi => by
        rcases Nat.lt_or_ge i j with g | g
        · exact HM.out i g
        · obtain rfl : i = j := by omega
          rw [← hzj]; exact h
      rw [← hzj] at HLI HSI
      clear hc hsi hzj
      have hi0 : (0 : Int) ≤ (j : Int) := by omega
      have hi1 : (j : Int) < (n1 : Int) := by omega
      go_wp2_with fail
      go_loopg [2, 4] ni (fun k u i wx => ∃ l : Nat, k = ni - l ∧ l ≤ ni ∧ i = .int .i64 l ∧ wx = wr ∧ u = .bool false ∧ Hid (∀ k, k < l → NoSp (zj.getD k ByteArray.empty)))
      case atStart => exact ⟨0, rfl, Nat.zero_le _, rfl, rfl, rfl, Lib.hid fun i hi => absurd hi (Nat.not_lt_zero _)⟩
      case round =>
        obtain ⟨l, hk, hl, rfl, rfl, rfl, HP⟩ := hrel
        have KI := Lib.hid hk; clear hk
        by_cases hlt2 : l < ni
        · rcases HSI.out.split with h | ⟨b2, off2, rfl, hc⟩
          · exfalso; omega
          have hcl := hc.out l hlt2
          have hsl := HSI.out.size l
          have HPN : Hid (NoSp (zj.getD l ByteArray.empty) → ∀ k, k < l + 1 → NoSp (zj.getD k ByteArray.empty)) := fun h i hi => by
            rcases Nat.lt_or_ge i l with g | g
            · exact HP.out i g
            · obtain rfl : i = l := by omega
              exact h
          clear hc
          generalize zj.getD l ByteArray.empty = sl at hcl HPN hsl
          have hl0 : (0 : Int) ≤ (l : Int) := by omega
          have hl1 : (l : Int) < (ni : Int) := by omega
          go_wp2_with fail
          go_loopg [2, 6] sl.size (fun k u i wy => ∃ m : Nat, k = sl.size - m ∧ m ≤ sl.size ∧ i = .int .i64 m ∧ wy = wr ∧ u = .bool false ∧ Hid (NoTo sl m))
          case atStart => exact ⟨0, rfl, Nat.zero_le _, rfl, rfl, rfl, Lib.hid ⟨by simp, by simp, by simp⟩⟩
          case round =>
            obtain ⟨m, hk, hm, rfl, rfl, rfl, HO⟩ := hrel
            have KM := Lib.hid hk; clear hk
            by_cases hlt3 : m < sl.size
            · have hm0 : (0 : Int) ≤ (m : Int) := by omega
              have hm1 : (m : Int) < (sl.size : Int) := by omega
              by_cases hb : sl[m] = 40 ∨ sl[m] = 41 ∨ sl[m] = 124
              · have HB := Lib.hid hb
                clear hb
                obtain ⟨v, hv⟩ : ∃ v, v = sl[m] := ⟨_, rfl⟩
                rcases HB.out with h | h | h
                all_goals
                  have hv2 : (sl[m].toNat : Int) = _ := congrArg (fun x : UInt8 => (x.toNat : Int)) h
                  simp at hv2
                  clear h hv
                  go_wp2_with fail
                  go_ret
                  exact ⟨_, rfl, rfl, fun h => Bool.noConfusion h⟩
              · simp only [not_or] at hb
                obtain ⟨b1, b2', b3⟩ := hb
                have t1 : ((sl[m].toNat : Int) == 40) = false := byte_ne b1
                have t2 : ((sl[m].toNat : Int) == 41) = false := byte_ne b2'
                have t3 : ((sl[m].toNat : Int) == 124) = false := byte_ne b3
                have HON : Hid (NoTo sl (m + 1)) := NoTo.step HO.out hlt3 b1 b2' b3
                clear b1 b2' b3
                go_wp2_with fail
                go_roundg (sl.size - (m + 1))
                case measure => rw [KM.out]; omega
                case rel => exact ⟨m + 1, rfl, by omega, by go_num, rfl, rfl, HON⟩
            · have HPM := Lib.hid (HPN.out (NoTo.full HO.out (by omega)))
              go_wp2_with fail
              go_roundg (ni - (l + 1))
              case measure => rw [KI.out]; omega
              case rel => exact ⟨l + 1, rfl, by omega, by go_num, rfl, rfl, HPM⟩
        · obtain rfl : ni = l := by omega
          have HMM := Lib.hid (HMN.out (by rw [HLI.out]; exact HP.out))
          go_wp2_with fail
          go_roundg (n1 - (j + 1))
          case measure => rw [KK.out]; omega
          case rel => exact ⟨j + 1, rfl, by omega, by go_num, rfl, rfl, HMM⟩
    · obtain rfl : n1 = j := by omega
      go_wp2_with fail
      go_ret
      exact ⟨_, rfl, rfl, fun _ => HM.out⟩
end fnSubExprBalancedOneBarPerSeparator
end Go.Proofs.Ytjneojglklbbfaa
