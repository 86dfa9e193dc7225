/-
  The walk of FnCursorCountsConsumed: the cursor counts the visible tokens that Next handed out. Conditions: none beyond the statement's own.
-/
import Derived.Test.YtnbpddcgpjjibaaT5B
namespace Go.Proofs.Ytnbpddcgpjjibaa
open Go.RowKit
set_option linter.unusedSimpArgs false
set_option linter.unusedVariables false

namespace fnCursorCountsConsumed
theorem zz (A0 : Option Addr) (n0 c0 : Nat) (A1 : Option Addr) (n1 c1 : Nat) (k : Int) (w : World) (h0 : n0 ≤ maxLen) (h1 : n1 ≤ maxLen) :
    Calls Try.prog 27 #[.slice A0 n0 c0, .slice A1 n1 c1, .int .i64 k] w (BoolAny w) := by
  unfold maxLen at h0 h1
  go_enter Try.func27, Try.ntmps27
  go_wp2_with fail
  all_goals (go_ret; exact ⟨_, rfl, rfl⟩)

set_option maxHeartbeats 4000000 in
set_option maxRecDepth 100000 in
theorem walk (A0 : Option Addr) (n0 c0 : Nat) (z0 : List Int) (A1 : Option Addr) (n1 c1 : Nat) (z1 : List Int) (k : Int) (w : World)
    (ht : Ints .u8 w A0 n0 z0) (he : Ints .u8 w A1 n1 z1) (_ : (Lit.int .i64 k).wf = true) :
    Calls Try.prog 5 #[.slice A0 n0 c0, .slice A1 n1 c1, .int .i64 k] w fun e w' => e = .returned (.bool true) ∧ Below w.heap.size w w' := by
  have hm0 := ht.2.1
  have hm1 := he.2.1
  have HT := Lib.hid ht; clear ht
  have HE := Lib.hid he; clear he
  by_cases hsmall : n0 ≤ 65536 ∧ n1 ≤ 65536 ∧ 0 ≤ k ∧ k ≤ 65536
  case neg =>
    go_enter Try.func5, Try.ntmps5
    go_wp2_with fail
    refine (zz A0 n0 c0 A1 n1 c1 k _ hm0 hm1).mono ?_
    rintro e w1 ⟨b, rfl, rfl⟩
    unfold maxLen at hm0 hm1
    cases b
    · go_wp2_with fail
      go_ret
      exact ⟨rfl, Below.refl _ _⟩
    · go_wp2_with fail
      all_goals first | (exfalso; omega) | (go_ret; exact ⟨rfl, Below.refl _ _⟩)
  obtain ⟨hs0, hs1, hk0, hk1⟩ := hsmall
  obtain ⟨K, rfl⟩ : ∃ K : Nat, k = K := ⟨k.toNat, by omega⟩
  have hF := t4_first' z0 (u8_ne HT.out)
  rw [HT.out.1] at hF
  have HF := Lib.hid hF; clear hF
  have hLl := t4_length z0
  rw [HT.out.1] at hLl
  have HLL := Lib.hid hLl; clear hLl
  have hat : ∀ j, j ≤ n0 → (t4 z0).getD j eofTok = ⟨(z0 ++ [-1]).getD j (-1), ByteArray.empty, ByteArray.empty, (j : Int), 0, 0⟩ := fun j hj => t4_at z0 j (by rw [HT.out.1]; exact hj)
  have HA := Lib.hid hat; clear hat
  have hEL : n0 < (t4 z0).length := by rw [HLL.out]; omega
  have HI : Hid (∀ j, PL.Inv (inS z1) (types (t4 z0)) n0 j ((PL.fresh (inS z1) (types (t4 z0))).run (inS z1) (types (t4 z0)) j)) := fun j => PL.inv_run (S := inS z1) HF.out j
  go_enter Try.func5, Try.ntmps5
  go_wp2_with fail
  refine (zz A0 n0 c0 A1 n1 c1 K _ hm0 hm1).mono ?_
  rintro e w0 ⟨b, rfl, rfl⟩
  unfold maxLen at hm0 hm1
  cases b
  · go_wp2_with fail
    go_ret
    exact ⟨rfl, Below.refl _ _⟩
  go_wp2_with fail
  refine (tab_any A1 n1 c1 z1 _ HE.out hs1).mono ?_
  rintro e w1 ⟨rfl, hb1⟩
  have hz := zeroTab
  obtain ⟨Z, hZ⟩ : ∃ Z, Z = tabZ := ⟨_, rfl⟩
  rw [← hZ] at hz
  obtain ⟨tg, htg⟩ : ∃ tg, tg = w1.heap.size := ⟨_, rfl⟩
  have hsz := tabA_size z1
  have hZs : Z.size = (tabA z1).size := by rw [hZ, hsz]; simp [tabZ]
  have hnb := Blk.new w1 24 Z
  rw [← htg] at hnb
  have HTH : Hid ((w1.alloc (.cells Z 24)).there tg 0 (tabA z1).size) := hnb.there (by omega)
  have HTB : Hid (Blk ((w1.alloc (.cells Z 24)).setCells tg 0 (tabA z1).toList) tg 24 (tabA z1)) := hnb.setAll _ hZs
  have HIN : Hid ((Try.prog.info? 24).map (·.size) = some (tabA z1).size) := by rw [hsz]; exact tabInfo
  have HBW : Hid (Below w.heap.size w ((w1.alloc (.cells Z 24)).setCells tg 0 (tabA z1).toList)) := below_setCells (hb1.alloc hb1.size _) (by rw [htg]; exact hb1.size) _ _
  have HTG := Lib.hid htg; clear htg
  have htw : w.heap.size ≤ tg := by rw [HTG.out]; exact hb1.size
  clear hZ hZs hsz hnb hb1
  go_wp2_with (refine wpList_store_mid (by rfl) _ _ _ (by rfl) tg 0 (tabA z1) (by simp [HTG.out, Act.eval]) (by rfl) HTH.out HIN.out (tabA_one z1) ?_; generalize hW2 : World.setCells _ tg 0 (tabA z1).toList = w2)
  have hTb : Blk w2 tg 24 (tabA z1) := by rw [← hW2]; exact HTB.out
  have hbw : Below w.heap.size w w2 := by rw [← hW2]; exact HBW.out
  rw [← HTG.out]
  clear hW2 HTH HTB HBW HIN hz
  refine (count_any A0 n0 c0 z0 z1 _ tg (HT.out.later hbw) hs0 hTb).mono ?_
  rintro e w3 ⟨rfl, q3, hw3⟩
  have hTb3 : Blk w3 tg 24 (tabA z1) := by rw [hw3]; exact hTb.drewN q3
  have hbw3 : Below w.heap.size w w3 := by rw [hw3]; exact below_drewN hbw _
  clear hw3 hTb hbw
  obtain ⟨M, hM⟩ : ∃ M, M = PL.cnt (inS z1) (types (t4 z0)) n0 := ⟨_, rfl⟩
  have hMn : M ≤ n0 := by rw [hM]; exact PL.cnt_le _
  rw [← hM]
  have HM := Lib.hid hM; clear hM
  go_wp2_with fail
  refine (build_any A0 n0 c0 z0 A1 n1 c1 z1 _ (HT.out.later hbw3) (HE.out.later hbw3) hs0 hs1).mono ?_
  rintro e w4 ⟨pb, tb, mb, cap, nm, rfl, hpb, htb, hmb, hcap, hx, hb4⟩
  have hbw4 := below_next hb4 hbw3
  have hpw : w.heap.size ≤ pb := Nat.le_trans hbw3.size hpb
  have hTb4 := hTb3.later hb4
  have htp : tg ≠ pb := by have := hTb3.lt; omega
  clear hb4 hTb3 hbw3
  obtain ⟨d0, d1, d2, d3, d4⟩ := hx.cells
  go_wp2_with fail
  refine (cursor_any _ _ _ _).mono ?_
  rintro e w5 ⟨rfl, hb5⟩
  have hx5 := hx.later hb5
  have hT5 := hTb4.later hb5
  have hbw5 := below_next hb5 hbw4
  clear hx hTb4 hbw4 hb5 d0 d1 d2 d3 d4
  rw [show ((PL.fresh (inS z1) (types (t4 z0))).cur : Int) = 0 from rfl]
  go_wp2_with fail
  go_loopg [10, 11, 12] K (fun q i _ _ wr => ∃ j : Nat, q = K - j ∧ j ≤ K ∧ i = .int .i64 j ∧ Lx wr pb tb mb cap nm (t4 z0) (inS z1) ((PL.fresh (inS z1) (types (t4 z0))).run (inS z1) (types (t4 z0)) j).raw ((PL.fresh (inS z1) (types (t4 z0))).run (inS z1) (types (t4 z0)) j).next ((PL.fresh (inS z1) (types (t4 z0))).run (inS z1) (types (t4 z0)) j).cur ∧ Blk wr tg 24 (tabA z1) ∧ Below w.heap.size w wr)
  case atStart => exact ⟨0, rfl, Nat.zero_le _, rfl, hx5, hT5, hbw5⟩
  case round =>
    obtain ⟨j, hq, hj, rfl, hxj, hTj, hbj⟩ := hrel
    have KK := Lib.hid hq; clear hq hx5 hT5 hbw5
    have hij := HI.out j
    have hrun : ((PL.fresh (inS z1) (types (t4 z0))).run (inS z1) (types (t4 z0)) (j + 1)) = ((PL.fresh (inS z1) (types (t4 z0))).run (inS z1) (types (t4 z0)) j).step (inS z1) (types (t4 z0)) := rfl
    have HRUN := Lib.hid hrun; clear hrun
    by_cases hlt : j < K
    · generalize (PL.fresh (inS z1) (types (t4 z0))).run (inS z1) (types (t4 z0)) j = s at hxj hij HRUN
      have HIJ := Lib.hid hij; clear hij
      have hcurb : s.cur ≤ 65536 := by have := HIJ.out.most; omega
      have hnn : s.next ≤ n0 := HIJ.out.le
      obtain ⟨d0, d1, d2, d3, d4⟩ := hxj.cells
      go_wp2_with fail
      refine (cursor_any _ _ _ _).mono ?_
      rintro e w6 ⟨rfl, hb6⟩
      have hx6 := hxj.later hb6
      have hT6 := hTj.later hb6
      have hbw6 := below_next hb6 hbj
      clear hxj hTj hbj hb6 d0 d1 d2 d3 d4
      go_wp2_with fail
      refine (next_any _ pb tb mb cap nm (t4 z0) (inS z1) _ hx6 n0 HF.out hEL hnn (by omega)).mono ?_
      rintro e w7 ⟨rfl, hg7, hx7⟩
      have hbw7 : Below w.heap.size w w7 := hbw6.grown hg7 hbw6.size (fun q hq => by injection hq with hq; omega)
      have hT7 := hT6.grown hg7 (fun e => by injection e with e; exact htp e)
      clear hg7 hT6 hx6 hbw6
      obtain ⟨t0, t1, t2, t3, t4, t5⟩ := hx7.tok (i := s.next) (by omega)
      rw [← at_types] at t0
      clear t1 t2 t3 t4 t5
      rcases HIJ.out.next_lt HF.out with ⟨hE1, hE2⟩ | ⟨hE1, hE2⟩
      · have hst := step_eof (S := inS z1) hE2
        rw [hE2] at t0
        rw [hst] at hx7
        have HST := Lib.hid hst; clear hst hE2 hE1
        obtain ⟨d0, d1, d2, d3, d4⟩ := hx7.cells
        go_wp2_with fail
        refine (cursor_any _ _ _ _).mono ?_
        rintro e w8 ⟨rfl, hb8⟩
        have hx8 := hx7.later hb8
        have hT8 := hT7.later hb8
        have hbw8 := below_next hb8 hbw7
        clear hx7 hT7 hbw7 hb8 d0 d1 d2 d3 d4 t0
        go_wp2_with fail
        go_roundg (K - (j + 1))
        case measure => rw [KK.out]; omega
        case rel => exact ⟨j + 1, rfl, by omega, by go_num, by rw [HRUN.out, HST.out]; exact hx8, hT8, hbw8⟩
      · have hst := step_cur (S := inS z1) hE2
        have hne : (PL.at_ (types (t4 z0)) s.next == -1) = false := by simpa using hE2
        generalize PL.at_ (types (t4 z0)) s.next = ty at t0 hne
        clear hE2 hE1
        have hst2 : ((s.step (inS z1) (types (t4 z0))).cur : Int) = (s.cur : Int) + 1 := by rw [hst]; omega
        have hx7' := hx7
        rw [hst2] at hx7'
        have HX7 := Lib.hid hx7; clear hx7 hst
        have HST := Lib.hid hst2; clear hst2
        obtain ⟨d0, d1, d2, d3, d4⟩ := hx7'.cells
        go_wp2_with fail
        refine (cursor_any _ _ _ _).mono ?_
        rintro e w8 ⟨rfl, hb8⟩
        have hx8 := hx7'.later hb8
        have hT8 := hT7.later hb8
        have hbw8 := below_next hb8 hbw7
        clear HX7 hx7' hT7 hbw7 hb8 d0 d1 d2 d3 d4 t0
        go_wp2_with fail
        go_roundg (K - (j + 1))
        case measure => rw [KK.out]; omega
        case rel => exact ⟨j + 1, rfl, by omega, by go_num, by rw [HRUN.out, HST.out]; exact hx8, hT8, hbw8⟩
    · obtain rfl : K = j := by omega
      generalize (PL.fresh (inS z1) (types (t4 z0))).run (inS z1) (types (t4 z0)) K = s at hxj hij HRUN
      have hcur := hij.cur_is
      clear HRUN
      have HIJ := Lib.hid hij; clear hij HI
      obtain ⟨m, hm⟩ : ∃ m, m = min K M := ⟨_, rfl⟩
      have hcm : s.cur = m := by rw [hm, HM.out]; exact hcur
      rw [hcm] at hxj
      clear hcur hcm
      have HMM := Lib.hid hm; clear hm
      go_wp2_with fail
      refine (min_nat K M _).mono ?_
      rintro e w6 ⟨rfl, rfl⟩
      rw [← HMM.out]
      obtain ⟨d0, d1, d2, d3, d4⟩ := hxj.cells
      go_wp2_with fail
      refine (cursor_any _ _ _ _).mono ?_
      rintro e w6 ⟨rfl, hb6⟩
      have hx6 := hxj.later hb6
      have hbw6 := below_next hb6 hbj
      clear hxj hTj hbj hb6 d0 d1 d2 d3 d4
      go_wp2_with fail
      refine (make_any _ pb tb mb cap nm (t4 z0) (inS z1) _ _ _ hx6).mono ?_
      rintro e w7 ⟨rfl, hb7⟩
      have hbw7 := below_next hb7 hbw6
      go_wp2_with fail
      refine (cursor_any _ _ _ _).mono ?_
      rintro e w8 ⟨rfl, hb8⟩
      go_wp2_with fail
      go_ret
      exact ⟨rfl, below_next hb8 hbw7⟩
end fnCursorCountsConsumed
end Go.Proofs.Ytnbpddcgpjjibaa
