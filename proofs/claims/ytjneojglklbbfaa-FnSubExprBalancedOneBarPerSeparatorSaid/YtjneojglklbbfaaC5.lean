/-
  The walk of FnSubExprBalancedOneBarPerSeparator: the group's text is balanced and bears one bar a separator. Conditions: none beyond the statement's own.
-/
import Derived.Test.YtjneojglklbbfaaC4
namespace Go.Proofs.Ytjneojglklbbfaa
open Go.RowKit
set_option linter.unusedSimpArgs false
set_option linter.unusedVariables false
namespace fnSubExprBalancedOneBarPerSeparator
/-- The depth behind j bytes of N. -/
def DepthAt (N j : Nat) (d : Int) : Prop := (j = 0 ∧ d = 0) ∨ (0 < j ∧ j < N ∧ d = 1) ∨ (j = N ∧ d = 0)
theorem byte_int {x c : UInt8} {v : Int} (h : x = c) (hv : (c.toNat : Int) = v := by rfl) : (x.toNat : Int) = v := by rw [h, hv]
set_option maxHeartbeats 4000000 in
set_option maxRecDepth 100000 in
theorem walk (A0 : Option Addr) (n0 c0 : Nat) (z0 : List (List ByteArray)) (la : Int) (w : World) (hv : Alts Strs w A0 n0 z0) (hwl : (Lit.int .i32 la).wf = true) :
    Calls Try.prog 4 #[.slice A0 n0 c0, .int .i32 la] w fun e w' => e = .returned (.bool true) ∧ Below w.heap.size w w' := by
  have HV := Lib.hid hv
  have HL := Lib.hid hv.1
  clear hv hwl
  go_enter Try.func4, Try.ntmps4
  go_wp2_with fail
  refine (zz A0 n0 c0 z0 la _ HV.out).mono ?_
  rintro e w1 ⟨b, rfl, rfl, hb⟩
  cases b
  · go_wp2_with fail
    go_ret
    exact ⟨rfl, Below.refl _ _⟩
  have hsum := hb rfl
  clear hb
  rw [HL.out] at hsum
  go_wp2_with fail
  refine (size_any A0 n0 c0 z0 _ HV.out (by omega)).mono ?_
  rintro e w1 ⟨r, rfl, hr, rfl⟩
  by_cases hrr : r ≤ 65536
  case neg =>
    go_wp2_with fail
    go_ret
    exact ⟨rfl, Below.refl _ _⟩
  go_wp2_with fail
  refine (nonEmpty A0 n0 c0 z0 _ HV.out).mono ?_
  rintro e w1 ⟨b, rfl, rfl, hpos⟩
  cases b
  · go_wp2_with fail
    go_ret
    exact ⟨rfl, Below.refl _ _⟩
  have HPO := Lib.hid (hpos rfl); clear hpos
  go_wp2_with fail
  refine (noSpecial A0 n0 c0 z0 _ HV.out).mono ?_
  rintro e w1 ⟨b, rfl, rfl, hno⟩
  cases b
  · go_wp2_with fail
    go_ret
    exact ⟨rfl, Below.refl _ _⟩
  have HNO := Lib.hid (hno rfl); clear hno
  by_cases hla : la = 40 ∨ la = 41 ∨ la = 124
  · rcases hla with rfl | rfl | rfl
    all_goals
      go_wp2_with fail
      go_ret
      exact ⟨rfl, Below.refl _ _⟩
  simp only [not_or] at hla
  obtain ⟨l1, l2, l3⟩ := hla
  have t1 : (la == 40) = false := by simpa using l1
  have t2 : (la == 41) = false := by simpa using l2
  have t3 : (la == 124) = false := by simpa using l3
  have HLA := Lib.hid (show la ≠ 40 ∧ la ≠ 41 ∧ la ≠ 124 from ⟨l1, l2, l3⟩)
  clear l1 l2 l3
  go_wp2_with fail
  refine (copy_any A0 n0 c0 z0 _ HV.out (by omega) (fun i hi => by have := sumN_get z0 i; omega)).mono ?_
  rintro e w3 ⟨A3, c3, rfl, hv3, hbw3, -⟩
  clear t1 t2 t3
  go_wp2_with fail
  refine (build_any A3 n0 c3 z0 la _ hv3 (by omega) (by omega) HPO.out HNO.out HLA.out).mono ?_
  rintro e w4 ⟨q, out, rfl, HQ, HG, hos, hb4⟩
  have hbw4 := below_next hb4 hbw3
  clear hv3 hb4 hbw3
  go_wp2_with fail
  refine (HQ.out _ (grown_refl _ _)).mono ?_
  rintro e w5 ⟨rfl, hb5⟩
  have hbw5 := below_next hb5 hbw4
  clear hb5 hbw4 HQ
  obtain ⟨f1, f2, f3, f4, f5⟩ := HG.out.facts
  have HF3 := Lib.hid f3
  have HF4 := Lib.hid f4
  have HF5 := Lib.hid f5
  have hf0 : (0 : Nat) < out.size := by omega
  have hv0 : ((out[0]'hf0).toNat : Int) = 40 := byte_int (f2 hf0)
  have hlt2 : ¬ ((out.size : Int) < 2) := by omega
  have HF2 := Lib.hid f2
  clear f2 f3 f4 f5
  go_wp2_with fail
  clear hv0
  go_loopg [4, 6, 7, 8] out.size (fun k u dv bv i wx => ∃ (j : Nat) (d : Int) (b : Nat), k = out.size - j ∧ j ≤ out.size ∧ i = .int .i64 j ∧ dv = .int .i64 d ∧ bv = .int .i64 b ∧ u = .bool false ∧ wx = w5 ∧ b ≤ j ∧ Hid (b = bars out j) ∧ Hid (DepthAt out.size j d))
  case atStart => exact ⟨0, 0, 0, rfl, Nat.zero_le _, rfl, rfl, rfl, rfl, rfl, Nat.le_refl _, Lib.hid (by simp [bars]), Lib.hid (.inl ⟨rfl, rfl⟩)⟩
  case round =>
    obtain ⟨j, d, b, hk, hj, rfl, rfl, rfl, rfl, rfl, hbj, HB, HD⟩ := hrel
    have KK := Lib.hid hk; clear hk
    by_cases hlt : j < out.size
    · have g0 : (0 : Int) ≤ (j : Int) := by omega
      have g1 : (j : Int) < (out.size : Int) := by omega
      have HST := Lib.hid (bars_step out j hlt)
      by_cases c0 : j = 0
      · have hd : d = 0 := by have := HD.out; unfold DepthAt at this; omega
        subst hd
        have ho : out[j] = 40 := by subst c0; exact HF2.out hlt
        have hv : (out[j].toNat : Int) = 40 := byte_int ho
        have HBN : Hid (b = bars out (j + 1)) := by show _ = _; rw [HST.out, ho, HB.out]; simp
        have HDN : Hid (DepthAt out.size (j + 1) 1) := .inr (.inl ⟨by omega, by omega, rfl⟩)
        clear ho c0 HB HD
        go_wp2_with fail
        go_roundg (out.size - (j + 1))
        case measure => rw [KK.out]; omega
        case rel => exact ⟨j + 1, 1, b, rfl, by omega, by go_num, by go_num, rfl, rfl, rfl, by omega, HBN, HDN⟩
      · by_cases c1 : j + 1 = out.size
        · have hd : d = 1 := by have := HD.out; unfold DepthAt at this; omega
          subst hd
          have ho : out[j] = 41 := HF3.out j hlt c1
          have hv : (out[j].toNat : Int) = 41 := byte_int ho
          have HBN : Hid (b = bars out (j + 1)) := by show _ = _; rw [HST.out, ho, HB.out]; simp
          have HDN : Hid (DepthAt out.size (j + 1) 0) := .inr (.inr ⟨c1, rfl⟩)
          have hN : (out.size : Int) - 1 = (j : Int) := by omega
          clear ho c0 HB HD
          go_wp2_with fail
          go_roundg (out.size - (j + 1))
          case measure => rw [KK.out]; omega
          case rel => exact ⟨j + 1, 0, b, rfl, by omega, by go_num, by go_num, rfl, rfl, rfl, by omega, HBN, HDN⟩
        · have hd : d = 1 := by have := HD.out; unfold DepthAt at this; omega
          subst hd
          obtain ⟨o1, o2⟩ := HF4.out j hlt (by omega) (by omega)
          have t1 : ((out[j].toNat : Int) == 40) = false := byte_ne o1
          have t2 : ((out[j].toNat : Int) == 41) = false := byte_ne o2
          have HDN : Hid (DepthAt out.size (j + 1) 1) := .inr (.inl ⟨by omega, by omega, rfl⟩)
          by_cases o3 : out[j] = 124
          · have hv : (out[j].toNat : Int) = 124 := byte_int o3
            have HBN : Hid (b + 1 = bars out (j + 1)) := by show _ = _; rw [HST.out, o3, HB.out]; simp
            clear o1 o2 o3 HB HD t1 t2
            go_wp2_with fail
            go_roundg (out.size - (j + 1))
            case measure => rw [KK.out]; omega
            case rel => exact ⟨j + 1, 1, b + 1, rfl, by omega, by go_num, rfl, by go_num, rfl, rfl, by omega, HBN, HDN⟩
          · have t3 : ((out[j].toNat : Int) == 124) = false := byte_ne o3
            have HBN : Hid (b = bars out (j + 1)) := by show _ = _; rw [HST.out, if_neg o3, HB.out]; omega
            clear o1 o2 o3 HB HD
            go_wp2_with fail
            go_roundg (out.size - (j + 1))
            case measure => rw [KK.out]; omega
            case rel => exact ⟨j + 1, 1, b, rfl, by omega, by go_num, rfl, rfl, rfl, rfl, by omega, HBN, HDN⟩
    · have hd : d = 0 := by have := HD.out; unfold DepthAt at this; omega
      subst hd
      have hbn : b = n0 - 1 := by
        have h1 := HF5.out
        have h2 := HB.out
        rw [show j = out.size by omega] at h2
        rw [h2, h1]
      by_cases hn1 : 1 < n0
      · have hbI : (n0 : Int) - 1 = (b : Int) := by omega
        clear hbn
        go_wp2_with fail
        go_ret
        exact ⟨rfl, hbw5⟩
      · have hb0 : b = 0 := by omega
        subst hb0
        clear hbn
        go_wp2_with fail
        go_ret
        exact ⟨rfl, hbw5⟩
end fnSubExprBalancedOneBarPerSeparator
end Go.Proofs.Ytjneojglklbbfaa
