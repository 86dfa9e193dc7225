/-
  The walk of FnIncludeApplyRulesSplicesIncludedState: a rule that names a state is replaced by a copy of that state's old rules, and nothing else changes. Conditions: F answers the tape.
-/
import Derived.Test.YtlahcemjknffnaaFmtMD
namespace Go.Proofs.YtlahcemjknffnaaFmt
open Go.RowKit Go.Extern.Stop Go.Stop Go.Extern
set_option linter.unusedSimpArgs false
set_option linter.unusedVariables false
namespace fnIncludeApplyRulesSplicesIncludedState
open fnValidatePush fnInc
set_option maxHeartbeats 4000000 in
set_option maxRecDepth 1000000 in
theorem walk (F : Interp) (A0 : Option Addr) (n0 c0 : Nat) (z0 : List ByteArray) (A1 : Option Addr) (n1 c1 : Nat) (z1 : List (List ByteArray)) (a2 a3 : Int) (t : ByteArray) (w : World) (hF : F.answers w.tape) (hv0 : Strs w A0 n0 z0) (hv1 : Alts Strs w A1 n1 z1)
    (h2 : (Lit.int .i64 a2).wf = true) (h3 : (Lit.int .i64 a3).wf = true) (ht : t.size ≤ maxLen) :
    Calls Tryf.prog 4 #[.slice A0 n0 c0, .slice A1 n1 c1, .int .i64 a2, .int .i64 a3, .string t] w fun e w' => e = .returned (.bool true) ∧ Below w.heap.size w w' := by
  have HZ := Lib.hid (zz A0 n0 c0 z0 A1 n1 c1 z1 a2 a3 t w hv0 hv1 ht)
  have HS0 := Lib.hid hv0
  have HS1 := Lib.hid hv1
  have HF := Lib.hid hF
  have HT := Lib.hid ht
  unfold maxLen at ht
  clear hv0 hv1 h2 h3 hF
  by_cases hn0 : n0 ≤ 4096
  case neg =>
    go_enter Tryf.func4, Tryf.ntmps4
    go_wp2_with fail
    refine HZ.out.mono ?_
    rintro e w' ⟨bz, rfl, rfl, hz⟩
    go_wp2_with fail
    all_goals (go_ret; exact ⟨rfl, Below.refl _ _⟩)
  by_cases hn1 : n1 ≤ 4096
  case neg =>
    go_enter Tryf.func4, Tryf.ntmps4
    go_wp2_with fail
    refine HZ.out.mono ?_
    rintro e w' ⟨bz, rfl, rfl, hz⟩
    go_wp2_with fail
    all_goals (go_ret; exact ⟨rfl, Below.refl _ _⟩)
  go_enter Tryf.func4, Tryf.ntmps4
  go_wp2_with fail
  refine HZ.out.mono ?_
  rintro e w' ⟨bz, rfl, rfl, hz⟩
  cases bz
  case false =>
    go_wp2_with fail
    go_ret
    exact ⟨rfl, Below.refl _ _⟩
  have HLEN : Hid (∀ i, (z1.getD i []).length ≤ 1048576) := Lib.hid (fun i => by
    rcases Nat.lt_or_ge i n1 with g | g
    · exact hz rfl i g
    · rw [List.getD_eq_getElem?_getD, List.getElem?_eq_none (by rw [HS1.out.1]; exact g)]; exact Nat.zero_le _)
  clear hz HZ
  go_wp2_with fail
  go_loopg [11, 13, 70] n0 (fun k z s i wr => ∃ (j : Nat) (m : Int), k = n0 - j ∧ j ≤ n0 ∧ z = .int .i64 m ∧ i = .int .i64 j ∧ wr = w)
  case atStart => exact ⟨0, _, rfl, Nat.zero_le _, rfl, rfl, rfl⟩
  case round =>
    obtain ⟨j, m, hk, hj, rfl, rfl, rfl⟩ := hrel
    have KK := Lib.hid hk; clear hk
    by_cases hlt : j < n0
    case pos =>
      rcases HS0.out.split with h | ⟨b, off, rfl, hc⟩
      · exfalso; omega
      have hcj := hc.out j hlt
      have hsj := HS0.out.size j
      generalize z0.getD j ByteArray.empty = sj at hcj hsj
      have hj0 : (0 : Int) ≤ (j : Int) := by omega
      have hj1 : (j : Int) < (n0 : Int) := by omega
      clear hc
      go_wp2_with fail
      go_roundg (n0 - (j + 1))
      case measure => rw [KK.out]; omega
      case rel => exact ⟨j + 1, _, rfl, by omega, rfl, by go_num, rfl⟩
    case neg =>
      obtain rfl : n0 = j := by omega
      clear KK
      have HQ : Hid (∀ (T : Array Value) (w' : World), T.getD 10 undef = .bool true → Below wr.heap.size wr w' → (bodyPost Tryf.prog Tryf.f4 fun e w' => e = .returned (.bool true) ∧ Below wr.heap.size wr w') .ret ⟨T, []⟩ w') := fun T w' h hb => bodyPost_ret (v := .bool true) (by simp [results, Tryf.results4]; simpa using h) rfl ⟨rfl, hb⟩
      obtain ⟨wo, rfl⟩ : ∃ x, x = wr := ⟨_, rfl⟩
      go_upto_region 11 with (fail)
      rename_i K2 hK2 K1 hK1
      have HK2 := Lib.hid hK2
      clear hK2
      go_wp2_with fail
      go_loopg [11, 15, 17, 81] n1 (fun k z s u i wr => ∃ (j : Nat) (m : Int), k = n1 - j ∧ j ≤ n1 ∧ z = .int .i64 m ∧ i = .int .i64 j ∧ wr = wo)
      case atStart => exact ⟨0, _, rfl, Nat.zero_le _, rfl, rfl, rfl⟩
      case round =>
        obtain ⟨j, m, hk, hj, rfl, rfl, rfl⟩ := hrel
        have KK := Lib.hid hk; clear hk
        by_cases hlt : j < n1
        case pos =>
          rcases HS1.out.split with h | ⟨b, off, rfl, hc⟩
          · exfalso; omega
          obtain ⟨Ai, ni, ci, hcj, hsi⟩ := hc.out j hlt
          have hni := hsi.2.1
          unfold maxLen at hni
          have HSI := Lib.hid hsi
          have hj0 : (0 : Int) ≤ (j : Int) := by omega
          have hj1 : (j : Int) < (n1 : Int) := by omega
          clear hc hsi
          by_cases hmt : 1048576 < m
          case pos =>
            go_wp2_with fail
            exact HQ.out _ _ rfl (Below.refl _ _)
          go_wp2_with fail
          obtain ⟨wo2, rfl⟩ : ∃ x, x = wr := ⟨_, rfl⟩
          obtain ⟨zj, hzj⟩ : ∃ x, x = z1.getD j [] := ⟨_, rfl⟩
          rw [← hzj] at HSI
          clear hzj
          go_loopg [11, 17, 94] ni (fun k z s i wr => ∃ (l : Nat) (m : Int), k = ni - l ∧ l ≤ ni ∧ z = .int .i64 m ∧ i = .int .i64 l ∧ wr = wo2)
          case atStart => exact ⟨0, _, rfl, Nat.zero_le _, rfl, rfl, rfl⟩
          case round =>
            obtain ⟨l, m2, hk, hl, rfl, rfl, rfl⟩ := hrel
            have KI := Lib.hid hk; clear hk
            by_cases hlt2 : l < ni
            case pos =>
              rcases HSI.out.split with h | ⟨b2, off2, rfl, hc⟩
              · exfalso; omega
              have hcl := hc.out l hlt2
              have hsl := HSI.out.size l
              generalize zj.getD l ByteArray.empty = sl at hcl hsl
              have hl0 : (0 : Int) ≤ (l : Int) := by omega
              have hl1 : (l : Int) < (ni : Int) := by omega
              clear hc
              go_wp2_with fail
              go_roundg (ni - (l + 1))
              case measure => rw [KI.out]; omega
              case rel => exact ⟨l + 1, _, rfl, by omega, rfl, by go_num, rfl⟩
            case neg =>
              obtain rfl : ni = l := by omega
              go_wp2_with fail
              go_roundg (n1 - (j + 1))
              case measure => rw [KK.out]; omega
              case rel => exact ⟨j + 1, _, rfl, by omega, rfl, by go_num, rfl⟩
        case neg =>
          obtain rfl : n1 = j := by omega
          go_wp2_with fail
          refine HK2.out _ _ ?_
          exact rest23_any F _ A0 A1 n0 c0 n1 c1 a2 a3 _ z0 z1 t _ HF.out HQ HS0.out HS1.out HT.out hn0 hn1 HLEN.out _ _ _ _ _ _ _ _ _ _ _ _ _ _ _ _ _ _ _ _ _ _ _ _ _ _ _ _ _ _ _ _ _ _ _ _ _ _ _ _ _ _ _ _ _ _ _ _ _ _ _ _ _ _ _ _ _ _ _ _ _ _ _ _ _ _ _ _ _ _ _ _ _
end fnIncludeApplyRulesSplicesIncludedState
end Go.Proofs.YtlahcemjknffnaaFmt
