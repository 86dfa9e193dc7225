/-
  The walk of FnRawCursorAfterFastForward: FastForward leaves the raw cursor where the index model says. Conditions: none beyond the statement's own.
-/
import Derived.Test.YtnbpddcgpjjibaaT5B
namespace Go.Proofs.Ytnbpddcgpjjibaa
open Go.RowKit
set_option linter.unusedSimpArgs false
set_option linter.unusedVariables false

namespace fnRawCursorAfterFastForward
theorem zz (A0 : Option Addr) (n0 c0 : Nat) (A1 : Option Addr) (n1 c1 : Nat) (k : Int) (i : Int) (w : World) (h0 : n0 ≤ maxLen) (h1 : n1 ≤ maxLen) :
    Calls Try.prog 29 #[.slice A0 n0 c0, .slice A1 n1 c1, .int .i64 k, .int .i64 i] w (BoolAny w) := by
  unfold maxLen at h0 h1
  go_enter Try.func29, Try.ntmps29
  go_wp2_with fail
  all_goals (go_ret; exact ⟨_, rfl, rfl⟩)

set_option maxHeartbeats 4000000 in
set_option maxRecDepth 100000 in
theorem walk (A0 : Option Addr) (n0 c0 : Nat) (z0 : List Int) (A1 : Option Addr) (n1 c1 : Nat) (z1 : List Int) (k : Int) (i : Int) (w : World)
    (ht : Ints .u8 w A0 n0 z0) (he : Ints .u8 w A1 n1 z1) (_ : (Lit.int .i64 k).wf = true) (_ : (Lit.int .i64 i).wf = true) :
    Calls Try.prog 6 #[.slice A0 n0 c0, .slice A1 n1 c1, .int .i64 k, .int .i64 i] w fun e w' => e = .returned (.bool true) ∧ Below w.heap.size w w' := by
  have hm0 := ht.2.1
  have hm1 := he.2.1
  have HT := Lib.hid ht; clear ht
  have HE := Lib.hid he; clear he
  by_cases hsmall : n0 ≤ 65536 ∧ n1 ≤ 65536 ∧ 0 ≤ k ∧ k ≤ 65536
  case neg =>
    go_enter Try.func6, Try.ntmps6
    go_wp2_with fail
    refine (zz A0 n0 c0 A1 n1 c1 k i _ hm0 hm1).mono ?_
    rintro e w1 ⟨b, rfl, rfl⟩
    unfold maxLen at hm0 hm1
    cases b
    · go_wp2_with fail
      go_ret
      exact ⟨rfl, Below.refl _ _⟩
    · go_wp2_with fail
      all_goals first | (exfalso; omega) | (go_ret; exact ⟨rfl, Below.refl _ _⟩)
  obtain ⟨hs0, hs1, hk0, hk1⟩ := hsmall
  obtain ⟨K, rfl⟩ : ∃ K : Nat, k = K := ⟨k.toNat, by omega⟩
  have hF := t4_first' z0 (u8_ne HT.out)
  rw [HT.out.1] at hF
  have HF := Lib.hid hF; clear hF
  have hLl := t4_length z0
  rw [HT.out.1] at hLl
  have HLL := Lib.hid hLl; clear hLl
  have hat : ∀ j, j ≤ n0 → (t4 z0).getD j eofTok = ⟨(z0 ++ [-1]).getD j (-1), ByteArray.empty, ByteArray.empty, (j : Int), 0, 0⟩ := fun j hj => t4_at z0 j (by rw [HT.out.1]; exact hj)
  have HA := Lib.hid hat; clear hat
  have hEL : n0 < (t4 z0).length := by rw [HLL.out]; omega
  have HI : Hid (∀ j, PL.Inv (inS z1) (types (t4 z0)) n0 j ((PL.fresh (inS z1) (types (t4 z0))).run (inS z1) (types (t4 z0)) j)) := fun j => PL.inv_run (S := inS z1) HF.out j
  go_enter Try.func6, Try.ntmps6
  go_wp2_with fail
  refine (zz A0 n0 c0 A1 n1 c1 K i _ hm0 hm1).mono ?_
  rintro e w0 ⟨b, rfl, rfl⟩
  unfold maxLen at hm0 hm1
  cases b
  · go_wp2_with fail
    go_ret
    exact ⟨rfl, Below.refl _ _⟩
  have hbw := Below.refl w.heap.size w
  go_wp2_with fail
  refine (build_any A0 n0 c0 z0 A1 n1 c1 z1 _ (HT.out.later hbw) (HE.out.later hbw) hs0 hs1).mono ?_
  rintro e w4 ⟨pb, tb, mb, cap, nm, rfl, hpb, htb, hmb, hcap, hx, hb4⟩
  have hbw4 := below_next hb4 hbw
  have hpw : w.heap.size ≤ pb := Nat.le_trans hbw.size hpb
  clear hb4
  go_wp2_with fail
  go_loopg [11] K (fun q i wr => ∃ j : Nat, q = K - j ∧ j ≤ K ∧ i = .int .i64 j ∧ Lx wr pb tb mb cap nm (t4 z0) (inS z1) ((PL.fresh (inS z1) (types (t4 z0))).run (inS z1) (types (t4 z0)) j).raw ((PL.fresh (inS z1) (types (t4 z0))).run (inS z1) (types (t4 z0)) j).next ((PL.fresh (inS z1) (types (t4 z0))).run (inS z1) (types (t4 z0)) j).cur ∧ Below w.heap.size w wr)
  case atStart => exact ⟨0, rfl, Nat.zero_le _, rfl, hx, hbw4⟩
  case round =>
    obtain ⟨j, hq, hj, rfl, hxj, hbj⟩ := hrel
    have KK := Lib.hid hq; clear hq
    clear hx hbw4
    by_cases hlt : j < K
    · have hij := HI.out j
      have HIJ := Lib.hid hij; clear hij
      go_wp2_with fail
      refine (next_any _ pb tb mb cap nm (t4 z0) (inS z1) _ hxj n0 HF.out hEL HIJ.out.le (by have := HIJ.out.most; omega)).mono ?_
      rintro e w5 ⟨rfl, hg5, hx5⟩
      have hb5 : Below w.heap.size w w5 := hbj.grown hg5 hbj.size (fun q hq => by injection hq with hq; omega)
      clear hg5
      go_wp2_with fail
      go_roundg (K - (j + 1))
      case measure => rw [KK.out]; omega
      case rel => exact ⟨j + 1, rfl, by omega, by go_num, hx5, hb5⟩
    · obtain rfl : K = j := by omega
      have hI := HI.out K
      generalize (PL.fresh (inS z1) (types (t4 z0))).run (inS z1) (types (t4 z0)) K = s at hxj hI
      have HIK := Lib.hid hI; clear hI HI KK
      have hrn : s.raw ≤ n0 := HIK.out.raw
      have hnn : s.next ≤ n0 := HIK.out.le
      obtain ⟨d0, d1, d2, d3, d4⟩ := hxj.cells
      have hcb : s.cur ≤ 65536 := by have := HIK.out.most; omega
      go_wp2_with fail
      refine (rawCursor_any _ _ _ _).mono ?_
      rintro e w6 ⟨rfl, hb6⟩
      have hx6 := hxj.later hb6
      have hbw6 := below_next hb6 hbj
      clear hxj hbj hb6 d0 d1 d2 d3 d4
      go_wp2_with fail
      refine (ff_any _ pb tb mb cap nm (t4 z0) (inS z1) s i hx6 n0 HF.out hEL hrn (by omega) (by rw [HLL.out]; omega)).mono ?_
      rintro e w7 ⟨rfl, hg7, hx7⟩
      have hbw7 : Below w.heap.size w w7 := hbw6.grown hg7 hbw6.size (fun q hq => by injection hq with hq; omega)
      clear hg7 hx6 hbw6
      have hCR : (s.ff (inS z1) (types (t4 z0)) n0 i).cur ≤ PL.ffRaw n0 i s.raw := by rw [PL.ff_cur HIK.out.cur hrn]; exact PL.cnt_le _
      rw [show (s.ff (inS z1) (types (t4 z0)) n0 i).raw = PL.ffRaw n0 i s.raw from rfl] at hx7
      generalize (s.ff (inS z1) (types (t4 z0)) n0 i).cur = C at hx7 hCR
      generalize ((s.ff (inS z1) (types (t4 z0)) n0 i).next : Int) = NX at hx7
      have hRd : PL.ffRaw n0 i s.raw = if i < s.raw then s.raw else min (i.toNat + 1) n0 := rfl
      generalize PL.ffRaw n0 i s.raw = R at hx7 hCR hRd
      have hC0 : (0 : Int) ≤ (C : Int) := by omega
      by_cases hi : (s.raw : Int) ≤ i
      · rw [if_neg (by omega)] at hRd
        by_cases hi2 : (n0 : Int) - 1 ≤ i
        · have hRW : (R : Int) = (n0 : Int) := by omega
          rw [hRW] at hx7
          have hCW : (C : Int) ≤ (n0 : Int) := by omega
          clear hRW hRd hCR
          obtain ⟨d0, d1, d2, d3, d4⟩ := hx7.cells
          go_wp2_with fail
          refine (rawCursor_any _ _ _ _).mono ?_
          rintro e w8 ⟨rfl, hb8⟩
          have hx8 := hx7.later hb8
          have hbw8 := below_next hb8 hbw7
          clear hx7 hbw7 hb8 d0 d1 d2 d3 d4
          go_wp2_with fail
          refine (make_any _ pb tb mb cap nm (t4 z0) (inS z1) _ _ _ hx8).mono ?_
          rintro e w9 ⟨rfl, hb9⟩
          have hx9 := hx8.later hb9
          have hbw9 := below_next hb9 hbw8
          clear hx8 hbw8 hb9
          go_wp2_with fail
          refine (rawCursor_any _ _ _ _).mono ?_
          rintro e wa ⟨rfl, hba⟩
          have hxa := hx9.later hba
          have hbwa := below_next hba hbw9
          clear hx9 hbw9 hba
          obtain ⟨d0, d1, d2, d3, d4⟩ := hxa.cells
          go_wp2_with fail
          refine (cursor_any _ _ _ _).mono ?_
          rintro e wb ⟨rfl, hbb⟩
          have hxb := hxa.later hbb
          have hbwb := below_next hbb hbwa
          clear hxa hbwa hbb d0 d1 d2 d3 d4
          obtain ⟨d0, d1, d2, d3, d4⟩ := hxb.cells
          go_wp2_with fail
          refine (cursor_any _ _ _ _).mono ?_
          rintro e wc ⟨rfl, hbc⟩
          have hbwc := below_next hbc hbwb
          go_wp2_with fail
          go_ret
          exact ⟨rfl, hbwc⟩
        · have hRW : (R : Int) = i + 1 := by omega
          rw [hRW] at hx7
          have hCW : (C : Int) ≤ i + 1 := by omega
          clear hRW hRd hCR
          obtain ⟨d0, d1, d2, d3, d4⟩ := hx7.cells
          go_wp2_with fail
          refine (rawCursor_any _ _ _ _).mono ?_
          rintro e w8 ⟨rfl, hb8⟩
          have hx8 := hx7.later hb8
          have hbw8 := below_next hb8 hbw7
          clear hx7 hbw7 hb8 d0 d1 d2 d3 d4
          go_wp2_with fail
          refine (make_any _ pb tb mb cap nm (t4 z0) (inS z1) _ _ _ hx8).mono ?_
          rintro e w9 ⟨rfl, hb9⟩
          have hx9 := hx8.later hb9
          have hbw9 := below_next hb9 hbw8
          clear hx8 hbw8 hb9
          go_wp2_with fail
          refine (rawCursor_any _ _ _ _).mono ?_
          rintro e wa ⟨rfl, hba⟩
          have hxa := hx9.later hba
          have hbwa := below_next hba hbw9
          clear hx9 hbw9 hba
          obtain ⟨d0, d1, d2, d3, d4⟩ := hxa.cells
          go_wp2_with fail
          refine (cursor_any _ _ _ _).mono ?_
          rintro e wb ⟨rfl, hbb⟩
          have hxb := hxa.later hbb
          have hbwb := below_next hbb hbwa
          clear hxa hbwa hbb d0 d1 d2 d3 d4
          obtain ⟨d0, d1, d2, d3, d4⟩ := hxb.cells
          go_wp2_with fail
          refine (cursor_any _ _ _ _).mono ?_
          rintro e wc ⟨rfl, hbc⟩
          have hbwc := below_next hbc hbwb
          go_wp2_with fail
          go_ret
          exact ⟨rfl, hbwc⟩
      · rw [if_pos (by omega)] at hRd
        have hRW : (R : Int) = (s.raw : Int) := by omega
        rw [hRW] at hx7
        have hCW : (C : Int) ≤ (s.raw : Int) := by omega
        clear hRW hRd hCR
        obtain ⟨d0, d1, d2, d3, d4⟩ := hx7.cells
        go_wp2_with fail
        refine (rawCursor_any _ _ _ _).mono ?_
        rintro e w8 ⟨rfl, hb8⟩
        have hx8 := hx7.later hb8
        have hbw8 := below_next hb8 hbw7
        clear hx7 hbw7 hb8 d0 d1 d2 d3 d4
        go_wp2_with fail
        refine (make_any _ pb tb mb cap nm (t4 z0) (inS z1) _ _ _ hx8).mono ?_
        rintro e w9 ⟨rfl, hb9⟩
        have hx9 := hx8.later hb9
        have hbw9 := below_next hb9 hbw8
        clear hx8 hbw8 hb9
        go_wp2_with fail
        refine (rawCursor_any _ _ _ _).mono ?_
        rintro e wa ⟨rfl, hba⟩
        have hxa := hx9.later hba
        have hbwa := below_next hba hbw9
        clear hx9 hbw9 hba
        obtain ⟨d0, d1, d2, d3, d4⟩ := hxa.cells
        go_wp2_with fail
        refine (cursor_any _ _ _ _).mono ?_
        rintro e wb ⟨rfl, hbb⟩
        have hxb := hxa.later hbb
        have hbwb := below_next hbb hbwa
        clear hxa hbwa hbb d0 d1 d2 d3 d4
        obtain ⟨d0, d1, d2, d3, d4⟩ := hxb.cells
        go_wp2_with fail
        refine (cursor_any _ _ _ _).mono ?_
        rintro e wc ⟨rfl, hbc⟩
        have hbwc := below_next hbc hbwb
        go_wp2_with fail
        go_ret
        exact ⟨rfl, hbwc⟩
end fnRawCursorAfterFastForward
end Go.Proofs.Ytnbpddcgpjjibaa
