/-
  The walk of FnPeekIsNextVisible: behind k calls of Next Peek is the next visible token. Conditions: none beyond the statement's own.
-/
import Derived.Test.YtnbpddcgpjjibaaT5B
namespace Go.Proofs.Ytnbpddcgpjjibaa
open Go.RowKit
set_option linter.unusedSimpArgs false
set_option linter.unusedVariables false

namespace fnPeekIsNextVisible
theorem zz (A0 : Option Addr) (n0 c0 : Nat) (A1 : Option Addr) (n1 c1 : Nat) (k : Int) (w : World) (h0 : n0 ≤ maxLen) (h1 : n1 ≤ maxLen) :
    Calls Try.prog 25 #[.slice A0 n0 c0, .slice A1 n1 c1, .int .i64 k] w (BoolAny w) := by
  unfold maxLen at h0 h1
  go_enter Try.func25, Try.ntmps25
  go_wp2_with fail
  all_goals (go_ret; exact ⟨_, rfl, rfl⟩)

set_option maxHeartbeats 4000000 in
set_option maxRecDepth 100000 in
theorem walk (A0 : Option Addr) (n0 c0 : Nat) (z0 : List Int) (A1 : Option Addr) (n1 c1 : Nat) (z1 : List Int) (k : Int) (w : World)
    (ht : Ints .u8 w A0 n0 z0) (he : Ints .u8 w A1 n1 z1) (_ : (Lit.int .i64 k).wf = true) :
    Calls Try.prog 4 #[.slice A0 n0 c0, .slice A1 n1 c1, .int .i64 k] w fun e w' => e = .returned (.bool true) ∧ Below w.heap.size w w' := by
  have hm0 := ht.2.1
  have hm1 := he.2.1
  have HT := Lib.hid ht; clear ht
  have HE := Lib.hid he; clear he
  by_cases hsmall : n0 ≤ 65536 ∧ n1 ≤ 65536 ∧ 0 ≤ k ∧ k ≤ 65536
  case neg =>
    go_enter Try.func4, Try.ntmps4
    go_wp2_with fail
    refine (zz A0 n0 c0 A1 n1 c1 k _ hm0 hm1).mono ?_
    rintro e w1 ⟨b, rfl, rfl⟩
    unfold maxLen at hm0 hm1
    cases b
    · go_wp2_with fail
      go_ret
      exact ⟨rfl, Below.refl _ _⟩
    · go_wp2_with fail
      all_goals first | (exfalso; omega) | (go_ret; exact ⟨rfl, Below.refl _ _⟩)
  obtain ⟨hs0, hs1, hk0, hk1⟩ := hsmall
  obtain ⟨K, rfl⟩ : ∃ K : Nat, k = K := ⟨k.toNat, by omega⟩
  have hF := t4_first' z0 (u8_ne HT.out)
  rw [HT.out.1] at hF
  have HF := Lib.hid hF; clear hF
  have hLl := t4_length z0
  rw [HT.out.1] at hLl
  have HLL := Lib.hid hLl; clear hLl
  have hat : ∀ j, j ≤ n0 → (t4 z0).getD j eofTok = ⟨(z0 ++ [-1]).getD j (-1), ByteArray.empty, ByteArray.empty, (j : Int), 0, 0⟩ := fun j hj => t4_at z0 j (by rw [HT.out.1]; exact hj)
  have HA := Lib.hid hat; clear hat
  have hEL : n0 < (t4 z0).length := by rw [HLL.out]; omega
  have HI : Hid (∀ j, PL.Inv (inS z1) (types (t4 z0)) n0 j ((PL.fresh (inS z1) (types (t4 z0))).run (inS z1) (types (t4 z0)) j)) := fun j => PL.inv_run (S := inS z1) HF.out j
  go_enter Try.func4, Try.ntmps4
  go_wp2_with fail
  refine (zz A0 n0 c0 A1 n1 c1 K _ hm0 hm1).mono ?_
  rintro e w0 ⟨b, rfl, rfl⟩
  unfold maxLen at hm0 hm1
  cases b
  · go_wp2_with fail
    go_ret
    exact ⟨rfl, Below.refl _ _⟩
  go_wp2_with fail
  refine (tab_any A1 n1 c1 z1 _ HE.out hs1).mono ?_
  rintro e w1 ⟨rfl, hb1⟩
  have hz := zeroTab
  obtain ⟨Z, hZ⟩ : ∃ Z, Z = tabZ := ⟨_, rfl⟩
  rw [← hZ] at hz
  obtain ⟨tg, htg⟩ : ∃ tg, tg = w1.heap.size := ⟨_, rfl⟩
  have hsz := tabA_size z1
  have hZs : Z.size = (tabA z1).size := by rw [hZ, hsz]; simp [tabZ]
  have hnb := Blk.new w1 24 Z
  rw [← htg] at hnb
  have HTH : Hid ((w1.alloc (.cells Z 24)).there tg 0 (tabA z1).size) := hnb.there (by omega)
  have HTB : Hid (Blk ((w1.alloc (.cells Z 24)).setCells tg 0 (tabA z1).toList) tg 24 (tabA z1)) := hnb.setAll _ hZs
  have HIN : Hid ((Try.prog.info? 24).map (·.size) = some (tabA z1).size) := by rw [hsz]; exact tabInfo
  have HBW : Hid (Below w.heap.size w ((w1.alloc (.cells Z 24)).setCells tg 0 (tabA z1).toList)) := below_setCells (hb1.alloc hb1.size _) (by rw [htg]; exact hb1.size) _ _
  have HTG := Lib.hid htg; clear htg
  have htw : w.heap.size ≤ tg := by rw [HTG.out]; exact hb1.size
  clear hZ hZs hsz hnb hb1
  go_wp2_with (refine wpList_store_mid (by rfl) _ _ _ (by rfl) tg 0 (tabA z1) (by simp [HTG.out, Act.eval]) (by rfl) HTH.out HIN.out (tabA_one z1) ?_; generalize hW2 : World.setCells _ tg 0 (tabA z1).toList = w2)
  have hTb : Blk w2 tg 24 (tabA z1) := by rw [← hW2]; exact HTB.out
  have hbw : Below w.heap.size w w2 := by rw [← hW2]; exact HBW.out
  rw [← HTG.out]
  clear hW2 HTH HTB HBW HIN hz
  refine (count_any A0 n0 c0 z0 z1 _ tg (HT.out.later hbw) hs0 hTb).mono ?_
  rintro e w3 ⟨rfl, q3, hw3⟩
  have hTb3 : Blk w3 tg 24 (tabA z1) := by rw [hw3]; exact hTb.drewN q3
  have hbw3 : Below w.heap.size w w3 := by rw [hw3]; exact below_drewN hbw _
  clear hw3 hTb hbw
  obtain ⟨M, hM⟩ : ∃ M, M = PL.cnt (inS z1) (types (t4 z0)) n0 := ⟨_, rfl⟩
  have hMn : M ≤ n0 := by rw [hM]; exact PL.cnt_le _
  rw [← hM]
  have HM := Lib.hid hM; clear hM
  go_wp2_with fail
  refine (build_any A0 n0 c0 z0 A1 n1 c1 z1 _ (HT.out.later hbw3) (HE.out.later hbw3) hs0 hs1).mono ?_
  rintro e w4 ⟨pb, tb, mb, cap, nm, rfl, hpb, htb, hmb, hcap, hx, hb4⟩
  have hbw4 := below_next hb4 hbw3
  have hpw : w.heap.size ≤ pb := Nat.le_trans hbw3.size hpb
  have hTb4 := hTb3.later hb4
  have htp : tg ≠ pb := by have := hTb3.lt; omega
  clear hb4 hTb3 hbw3
  go_wp2_with fail
  go_loopg [11] K (fun q i wr => ∃ j : Nat, q = K - j ∧ j ≤ K ∧ i = .int .i64 j ∧ Lx wr pb tb mb cap nm (t4 z0) (inS z1) ((PL.fresh (inS z1) (types (t4 z0))).run (inS z1) (types (t4 z0)) j).raw ((PL.fresh (inS z1) (types (t4 z0))).run (inS z1) (types (t4 z0)) j).next ((PL.fresh (inS z1) (types (t4 z0))).run (inS z1) (types (t4 z0)) j).cur ∧ Blk wr tg 24 (tabA z1) ∧ Below w.heap.size w wr)
  case atStart => exact ⟨0, rfl, Nat.zero_le _, rfl, hx, hTb4, hbw4⟩
  case round =>
    obtain ⟨j, hq, hj, rfl, hxj, hTj, hbj⟩ := hrel
    have KK := Lib.hid hq; clear hq
    clear hx hbw4 hTb4
    by_cases hlt : j < K
    · have hij := HI.out j
      have HIJ := Lib.hid hij; clear hij
      go_wp2_with fail
      refine (next_any _ pb tb mb cap nm (t4 z0) (inS z1) _ hxj n0 HF.out hEL HIJ.out.le (by have := HIJ.out.most; omega)).mono ?_
      rintro e w5 ⟨rfl, hg5, hx5⟩
      have hb5 : Below w.heap.size w w5 := hbj.grown hg5 hbj.size (fun q hq => by injection hq with hq; omega)
      have hT5 := hTj.grown hg5 (fun e => by injection e with e; exact htp e)
      clear hg5
      go_wp2_with fail
      go_roundg (K - (j + 1))
      case measure => rw [KK.out]; omega
      case rel => exact ⟨j + 1, rfl, by omega, by go_num, hx5, hT5, hb5⟩
    · obtain rfl : K = j := by omega
      have hI := HI.out K
      generalize (PL.fresh (inS z1) (types (t4 z0))).run (inS z1) (types (t4 z0)) K = s at hxj hI
      have HIK := Lib.hid hI; clear hI HI KK
      have hrn : s.raw ≤ n0 := HIK.out.raw
      have hnn : s.next ≤ n0 := HIK.out.le
      go_wp2_with fail
      refine (min_nat K M _).mono ?_
      rintro e w5 ⟨rfl, rfl⟩
      obtain ⟨m, hm⟩ : ∃ m, m = min K M := ⟨_, rfl⟩
      rw [← hm]
      have hmK : m ≤ K := by omega
      have hcur : s.cur = m := by rw [hm, HM.out]; exact HIK.out.cur_is
      have HMM := Lib.hid hm; clear hm
      have HCU := Lib.hid hcur; clear hcur
      go_wp2_with fail
      refine (nth_any A0 n0 c0 z0 z1 _ tg ((m : Int) + 1) (HT.out.later hbj) hs0 hTj (by omega)).mono ?_
      rintro e w5 ⟨v, rfl, hN, q5, hw5⟩
      have hx5 := hxj.drewN q5
      have hT5 := hTj.drewN q5
      rw [← hw5] at hx5 hT5
      have hb5 : Below w.heap.size w w5 := by rw [hw5]; exact below_drewN hbj _
      have hnext : s.next = v := HIK.out.next_is HF.out (by
        rcases hN with ⟨h1, h2, h3⟩ | ⟨h1, h2⟩
        · exact .inl ⟨h1, h2, by rw [HCU.out]; omega⟩
        · exact .inr ⟨h1, by rw [HCU.out]; omega⟩)
      have hvis : v < n0 → PL.vis (inS z1) (types (t4 z0)) v = true := fun hv => by
        rcases hN with ⟨h1, h2, h3⟩ | ⟨h1, h2⟩
        · exact h2
        · omega
      have HV := Lib.hid hvis; clear hvis hN hw5 hxj hTj hbj
      rw [hnext] at hx5 hnn
      clear hnext
      go_wp2_with fail
      refine (peek_any _ pb tb mb cap nm (t4 z0) (inS z1) _ _ v hx5 (by omega)).mono ?_
      rintro e w6 ⟨rfl, q6, hw6⟩
      have hx6 := hx5.drewN q6
      have hT6 := hT5.drewN q6
      rw [← hw6] at hx6 hT6
      have hb6 : Below w.heap.size w w6 := by rw [hw6]; exact below_drewN hb5 _
      clear hw6 hx5 hT5 hb5
      obtain ⟨t0, t1, t2, t3, t4, t5⟩ := hx6.tok (i := v) (by omega)
      rw [HA.out v (by omega)] at t0 t1 t2 t3 t4 t5
      by_cases hvn : v < n0
      · obtain ⟨B, hB, hBz⟩ := u8_nat HT.out hvn
        rw [app_lt z0 v (by rw [HT.out.1]; exact hvn), hBz] at t0
        have hvv := HV.out hvn
        rw [t4_vis (inS z1) z0 v (by rw [HT.out.1]; exact hvn) (by rw [hBz]; omega), hBz] at hvv
        have hcb := tab_cell hT6 hB
        have hSB : inS z1 B = false := by simpa using hvv
        rw [hSB] at hcb
        clear hvv hSB
        have hsp := (HT.out.later hb6).split
        rcases hsp with h00 | ⟨b0, o0, rfl, hc0⟩
        · exfalso; omega
        have hcj := hc0.out v hvn
        rw [hBz] at hcj
        have HBZ := Lib.hid hBz; clear hBz
        have hi0 : (0 : Int) ≤ (B : Int) := by omega
        have hi1 : (B : Int) < 256 := by omega
        have hj0 : (0 : Int) ≤ (v : Int) := by omega
        have hj1 : (v : Int) < (n0 : Int) := by omega
        go_wp2_with fail
        go_quiet (fail)
        go_wp2_with fail
        go_ret
        exact ⟨rfl, below_drewN hb6 _⟩
      · rw [app_eq z0 v (by rw [HT.out.1]; omega)] at t0
        go_wp2_with fail
        go_ret
        exact ⟨rfl, hb6⟩
end fnPeekIsNextVisible
end Go.Proofs.Ytnbpddcgpjjibaa
