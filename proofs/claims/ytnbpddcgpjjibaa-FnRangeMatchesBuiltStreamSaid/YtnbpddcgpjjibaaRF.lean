/-
  The walk of FnRangeMatchesBuiltStream: Range gives back exactly the raw tokens between the two cursors. Conditions: none beyond the statement's own.
-/
import Derived.Test.YtnbpddcgpjjibaaT5C
namespace Go.Proofs.Ytnbpddcgpjjibaa
open Go.RowKit
set_option linter.unusedSimpArgs false
set_option linter.unusedVariables false

namespace fnRangeMatchesBuiltStream
theorem zz (A0 : Option Addr) (n0 c0 : Nat) (A1 : Option Addr) (n1 c1 : Nat) (k : Int) (a : Int) (b : Int) (w : World) (h0 : n0 ≤ maxLen) (h1 : n1 ≤ maxLen) :
    Calls Try.prog 33 #[.slice A0 n0 c0, .slice A1 n1 c1, .int .i64 k, .int .i64 a, .int .i64 b] w (BoolAny w) := by
  unfold maxLen at h0 h1
  go_enter Try.func33, Try.ntmps33
  go_wp2_with fail
  all_goals (go_ret; exact ⟨_, rfl, rfl⟩)

set_option maxHeartbeats 4000000 in
set_option maxRecDepth 100000 in
theorem walk (A0 : Option Addr) (n0 c0 : Nat) (z0 : List Int) (A1 : Option Addr) (n1 c1 : Nat) (z1 : List Int) (k : Int) (a : Int) (b : Int) (w : World)
    (ht : Ints .u8 w A0 n0 z0) (he : Ints .u8 w A1 n1 z1) (_ : (Lit.int .i64 k).wf = true) (_ : (Lit.int .i64 a).wf = true) (_ : (Lit.int .i64 b).wf = true) :
    Calls Try.prog 8 #[.slice A0 n0 c0, .slice A1 n1 c1, .int .i64 k, .int .i64 a, .int .i64 b] w fun e w' => e = .returned (.bool true) ∧ Below w.heap.size w w' := by
  have hm0 := ht.2.1
  have hm1 := he.2.1
  have HT := Lib.hid ht; clear ht
  have HE := Lib.hid he; clear he
  by_cases hsmall : n0 ≤ 65536 ∧ n1 ≤ 65536 ∧ 0 ≤ k ∧ k ≤ 65536 ∧ 0 ≤ a ∧ a ≤ b ∧ b ≤ (n0 : Int) + 1
  case neg =>
    go_enter Try.func8, Try.ntmps8
    go_wp2_with fail
    refine (zz A0 n0 c0 A1 n1 c1 k a b _ hm0 hm1).mono ?_
    rintro e w1 ⟨b, rfl, rfl⟩
    unfold maxLen at hm0 hm1
    cases b
    · go_wp2_with fail
      go_ret
      exact ⟨rfl, Below.refl _ _⟩
    · go_wp2_with fail
      all_goals first | (exfalso; omega) | (go_ret; exact ⟨rfl, Below.refl _ _⟩)
  obtain ⟨hs0, hs1, hk0, hk1, ha0, hab, hbn⟩ := hsmall
  obtain ⟨K, rfl⟩ : ∃ K : Nat, k = K := ⟨k.toNat, by omega⟩
  obtain ⟨A, rfl⟩ : ∃ A : Nat, a = A := ⟨a.toNat, by omega⟩
  obtain ⟨Bn, rfl⟩ : ∃ B : Nat, b = B := ⟨b.toNat, by omega⟩
  obtain ⟨N, hN1, hN2⟩ : ∃ N : Nat, A + N ≤ Bn ∧ Bn ≤ A + N := ⟨Bn - A, by omega, by omega⟩
  have hF := t4_first' z0 (u8_ne HT.out)
  rw [HT.out.1] at hF
  have HF := Lib.hid hF; clear hF
  have hLl := t4_length z0
  rw [HT.out.1] at hLl
  have HLL := Lib.hid hLl; clear hLl
  have hat : ∀ j, j ≤ n0 → (t4 z0).getD j eofTok = ⟨(z0 ++ [-1]).getD j (-1), ByteArray.empty, ByteArray.empty, (j : Int), 0, 0⟩ := fun j hj => t4_at z0 j (by rw [HT.out.1]; exact hj)
  have HA := Lib.hid hat; clear hat
  have hEL : n0 < (t4 z0).length := by rw [HLL.out]; omega
  have HI : Hid (∀ j, PL.Inv (inS z1) (types (t4 z0)) n0 j ((PL.fresh (inS z1) (types (t4 z0))).run (inS z1) (types (t4 z0)) j)) := fun j => PL.inv_run (S := inS z1) HF.out j
  go_enter Try.func8, Try.ntmps8
  go_wp2_with fail
  refine (zz A0 n0 c0 A1 n1 c1 K A Bn _ hm0 hm1).mono ?_
  rintro e w0 ⟨b, rfl, rfl⟩
  unfold maxLen at hm0 hm1
  cases b
  · go_wp2_with fail
    go_ret
    exact ⟨rfl, Below.refl _ _⟩
  have hbw := Below.refl w.heap.size w
  go_wp2_with fail
  refine (build_any A0 n0 c0 z0 A1 n1 c1 z1 _ (HT.out.later hbw) (HE.out.later hbw) hs0 hs1).mono ?_
  rintro e w4 ⟨pb, tb, mb, cap, nm, rfl, hpb, htb, hmb, hcap, hcap2, hx, hb4⟩
  have hbw4 := below_next hb4 hbw
  have hpw : w.heap.size ≤ pb := Nat.le_trans hbw.size hpb
  clear hb4
  go_wp2_with fail
  go_loopg [13] K (fun q i wr => ∃ j : Nat, q = K - j ∧ j ≤ K ∧ i = .int .i64 j ∧ Lx wr pb tb mb cap nm (t4 z0) (inS z1) ((PL.fresh (inS z1) (types (t4 z0))).run (inS z1) (types (t4 z0)) j).raw ((PL.fresh (inS z1) (types (t4 z0))).run (inS z1) (types (t4 z0)) j).next ((PL.fresh (inS z1) (types (t4 z0))).run (inS z1) (types (t4 z0)) j).cur ∧ Below w.heap.size w wr)
  case atStart => exact ⟨0, rfl, Nat.zero_le _, rfl, hx, hbw4⟩
  case round =>
    obtain ⟨j, hq, hj, rfl, hxj, hbj⟩ := hrel
    have KK := Lib.hid hq; clear hq
    clear hx hbw4
    by_cases hlt : j < K
    · have hij := HI.out j
      have HIJ := Lib.hid hij; clear hij
      go_wp2_with fail
      refine (next_any _ pb tb mb cap nm (t4 z0) (inS z1) _ hxj n0 HF.out hEL HIJ.out.le (by have := HIJ.out.most; omega)).mono ?_
      rintro e w5 ⟨rfl, hg5, hx5⟩
      have hb5 : Below w.heap.size w w5 := hbj.grown hg5 hbj.size (fun q hq => by injection hq with hq; omega)
      clear hg5
      go_wp2_with fail
      go_roundg (K - (j + 1))
      case measure => rw [KK.out]; omega
      case rel => exact ⟨j + 1, rfl, by omega, by go_num, hx5, hb5⟩
    · obtain rfl : K = j := by omega
      have hI := HI.out K
      generalize (PL.fresh (inS z1) (types (t4 z0))).run (inS z1) (types (t4 z0)) K = s at hxj hI
      have HIK := Lib.hid hI; clear hI HI KK
      have hrn : s.raw ≤ n0 := HIK.out.raw
      have hnn : s.next ≤ n0 := HIK.out.le
      go_wp2_with fail
      refine (range_any _ pb tb mb cap nm (t4 z0) (inS z1) _ _ _ A Bn N hxj (by omega) (by rw [HLL.out]; omega) hcap (by rw [HLL.out]; omega) hcap2).mono ?_
      rintro e w6 ⟨A', c', rfl, rfl, hA'⟩
      have HA' := Lib.hid hA'; clear hA'
      have hlen : ((N : Int) != (Bn : Int) - (A : Int)) = false := by simp; omega
      go_wp2_with fail
      clear hlen
      go_loopg [15, 16] N (fun q i _ wx => ∃ j : Nat, q = N - j ∧ j ≤ N ∧ i = .int .i64 j ∧ ∃ q, wx = wr.drewN q)
      case atStart => exact ⟨0, rfl, Nat.zero_le _, rfl, 0, rfl⟩
      case round =>
        obtain ⟨j, hq, hj, rfl, q0, hq0⟩ := hrel
        have KK := Lib.hid hq; clear hq
        have hx1 := hxj.drewN q0
        have hb1 := below_drewN hbj q0
        rw [← hq0] at hx1 hb1
        have HQ0 := Lib.hid hq0; clear hq0
        by_cases hlt : j < N
        · obtain rfl := HA'.out (by omega)
          obtain ⟨t0, t1, t2, t3, t4, t5⟩ := hx1.tok (i := A + j) (by omega)
          rw [HA.out (A + j) (by omega), Nat.add_mul] at t0 t1 t2 t3 t4 t5
          have hoff : ((A + j : Nat) : Int) = (A : Int) + (j : Int) := by omega
          simp only [hoff] at t0 t1 t2 t3 t4 t5
          clear hoff
          have hi0 : (0 : Int) ≤ (j : Int) := by omega
          have hi1 : (j : Int) < (N : Int) := by omega
          by_cases hv : A + j < n0
          · obtain ⟨B, hB, hBz⟩ := u8_nat HT.out hv
            rw [app_lt z0 (A + j) (by rw [HT.out.1]; exact hv), hBz] at t0
            have hsp := (HT.out.later hb1).split
            rcases hsp with h00 | ⟨b0, o0, rfl, hc0⟩
            · exfalso; omega
            have hcj := hc0.out (A + j) hv
            rw [hBz] at hcj
            have HBZ := Lib.hid hBz; clear hBz
            have hk0' : (0 : Int) ≤ (A : Int) + (j : Int) := by omega
            have hk1' : (A : Int) + (j : Int) < (n0 : Int) := by omega
            have htn : ((A : Int) + (j : Int)).toNat = A + j := by omega
            go_wp2_with fail
            go_quiet (fail)
            go_wp2_with fail
            clear htn
            go_roundg (N - (j + 1))
            case measure => rw [KK.out]; omega
            case rel => exact ⟨j + 1, rfl, by omega, by go_num, _, by rw [HQ0.out, World.drewN_drewN]⟩
          · rw [app_eq z0 (A + j) (by rw [HT.out.1]; omega)] at t0
            have hk1' : ¬ (A : Int) + (j : Int) < (n0 : Int) := by omega
            go_wp2_with fail
            go_roundg (N - (j + 1))
            case measure => rw [KK.out]; omega
            case rel => exact ⟨j + 1, rfl, by omega, by go_num, _, HQ0.out⟩
        · go_wp2_with fail
          go_ret
          exact ⟨rfl, hb1⟩
end fnRangeMatchesBuiltStream
end Go.Proofs.Ytnbpddcgpjjibaa
