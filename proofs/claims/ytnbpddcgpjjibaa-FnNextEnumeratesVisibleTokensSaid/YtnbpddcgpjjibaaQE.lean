/-
  The walk of FnNextEnumeratesVisibleTokens: Next hands out exactly the visible tokens before the first EOF, in order, then EOF for ever. Conditions: none beyond the statement's own.
-/
import Derived.Test.YtnbpddcgpjjibaaT4B
import Derived.Test.YtnbpddcgpjjibaaP5
namespace Go.Proofs.Ytnbpddcgpjjibaa
open Go.RowKit
set_option linter.unusedSimpArgs false
set_option linter.unusedVariables false

namespace fnNextEnumeratesVisibleTokens
theorem zz (A0 : Option Addr) (n0 c0 : Nat) (A1 : Option Addr) (n1 c1 : Nat)  (w : World) (h0 : n0 ≤ maxLen) (h1 : n1 ≤ maxLen) :
    Calls Try.prog 50 #[.slice A0 n0 c0, .slice A1 n1 c1] w (BoolAny w) := by
  unfold maxLen at h0 h1
  go_enter Try.func50, Try.ntmps50
  go_wp2_with fail
  all_goals (go_ret; exact ⟨_, rfl, rfl⟩)

theorem step_eof {S : Int → Bool} {T : List Int} {s : PL.St} (h : PL.at_ T s.next = -1) : s.step S T = s := by
  unfold PL.St.step; simp [h]
theorem step_on {S : Int → Bool} {T : List Int} {s : PL.St} (h : PL.at_ T s.next ≠ -1) : s.step S T = ⟨s.next + 1, PL.stop S T (s.next + 1), s.cur + 1⟩ := by
  unfold PL.St.step; simp [h]
/-- The state behind the visible tokens below m. -/
theorem state_at {S : Int → Bool} {T : List Int} {E m : Nat} (hF : PL.First T E) (hm : m ≤ E) {s : PL.St} (hs : s = (PL.fresh S T).run S T (PL.cnt S T m)) :
    s.cur = PL.cnt S T m ∧ s.next ≤ E ∧ (m < E → PL.vis S T m = true → s.next = m) ∧ (m = E → s.next = E) := by
  have I := PL.inv_run (S := S) hF (PL.cnt S T m)
  rw [← hs] at I
  have hc : s.cur = PL.cnt S T m := by
    have := I.cur_is
    have := PL.cnt_mono (S := S) (T := T) hm
    omega
  refine ⟨hc, I.le, fun h1 h2 => I.next_is hF (.inl ⟨h1, h2, hc.symm⟩), fun h => I.next_is hF (.inr ⟨rfl, by rw [hc, h]; exact Nat.le_refl _⟩)⟩

set_option maxHeartbeats 2000000 in
set_option maxRecDepth 100000 in
theorem walk (A0 : Option Addr) (n0 c0 : Nat) (z0 : List Int) (A1 : Option Addr) (n1 c1 : Nat) (z1 : List Int)  (w : World)
    (ht : Ints .i64 w A0 n0 z0) (he : Ints .i64 w A1 n1 z1)  :
    Calls Try.prog 14 #[.slice A0 n0 c0, .slice A1 n1 c1] w fun e w' => e = .returned (.bool true) ∧ Below w.heap.size w w' := by
  have hm0 := ht.2.1
  have hm1 := he.2.1
  have HT := Lib.hid ht; clear ht
  have HE := Lib.hid he; clear he
  by_cases hsmall : n0 ≤ 32768 ∧ n1 ≤ 32768
  case neg =>
    go_enter Try.func14, Try.ntmps14
    go_wp2_with fail
    refine (zz A0 n0 c0 A1 n1 c1  _ hm0 hm1).mono ?_
    rintro e w1 ⟨b, rfl, rfl⟩
    unfold maxLen at hm0 hm1
    cases b
    · go_wp2_with fail
      go_ret
      exact ⟨rfl, Below.refl _ _⟩
    · go_wp2_with fail
      all_goals first | (exfalso; omega) | (go_ret; exact ⟨rfl, Below.refl _ _⟩)
  obtain ⟨hs0, hs1⟩ := hsmall
  have hF := t4_first z0
  have hEl := t4E_le z0
  have hlen := t4_length z0
  rw [HT.out.1] at hEl hlen
  have hwf := t4_wf z0 HT.out.2.2.1
  have hat : ∀ j, j ≤ n0 → (t4 z0).getD j eofTok = ⟨(z0 ++ [-1]).getD j (-1), ByteArray.empty, ByteArray.empty, (j : Int), 0, 0⟩ := fun j hj => t4_at z0 j (by rw [HT.out.1]; exact hj)
  have hla : PL.at_ (types (t4 z0)) n0 = -1 := by rw [at_types, hat n0 (Nat.le_refl _)]; simp [← HT.out.1]
  generalize hEd : t4E z0 = E at *
  generalize hLd : t4 z0 = L at *
  generalize hSd : inS z1 = S at *
  have HLd := Lib.hid hLd; clear hLd
  have HSd := Lib.hid hSd; clear hSd hEd
  have HF := Lib.hid hF; clear hF
  have HW := Lib.hid hwf; clear hwf
  have HA := Lib.hid hat; clear hat
  have HLA := Lib.hid hla; clear hla
  have HL := Lib.hid hlen
  have hlb : L.length ≤ 1048576 := by omega
  have hl0 : 0 < L.length := by omega
  have hEL : E < L.length := by omega
  have hln : n0 < L.length := by omega
  have hln2 : L.length ≤ n0 + 1 := by omega
  clear hlen
  go_enter Try.func14, Try.ntmps14
  go_wp2_with fail
  refine (zz A0 n0 c0 A1 n1 c1  _ hm0 hm1).mono ?_
  rintro e w0 ⟨b, rfl, rfl⟩
  unfold maxLen at hm0 hm1
  cases b
  · go_wp2_with fail
    go_ret
    exact ⟨rfl, Below.refl _ _⟩
  go_wp2_with fail
  refine (toks_any A0 n0 c0 z0 _ HT.out hs0).mono ?_
  rw [HLd.out]
  rintro e w1 ⟨tb, cap, rfl, htb, hrow, hb1⟩
  go_wp2_with fail
  refine (elide_any A1 n1 c1 z1 _ (HE.out.later hb1) (by omega)).mono ?_
  rw [HSd.out]
  rintro e w2 ⟨mb, nm, rfl, hmb, hset, hb2⟩
  have hrow2 := hrow.later hb2
  have hbw : Below w.heap.size w w2 := below_next hb2 hb1
  have hmb2 : w.heap.size ≤ mb := Nat.le_trans hb1.size hmb
  clear hrow hb1 hb2 hmb
  go_wp2_with fail
  refine (stops_any _ tb mb cap nm L S hrow2 hset HW.out hlb hl0 (by rw [HL.out]; exact HLA.out)).mono ?_
  rintro e w3 ⟨g, cg, rfl, hg, hst, hb3⟩
  have hrow3 := hrow2.later hb3
  have hset3 := hset.later hb3
  have hbw3 := below_next hb3 hbw
  have hgl := hst.lt
  have hgw : w.heap.size ≤ g := Nat.le_trans hbw.size hg
  clear hrow2 hset hb3 hbw
  go_wp2_with fail
  refine (zeof_any _ tb cap L hrow3 hlb E HF.out hEL).mono ?_
  rintro e w3' ⟨rfl, rfl⟩
  go_wp2_with fail
  refine (fresh_any _ tb mb cap nm L S hrow3 hset3 HW.out hlb E HF.out hEL).mono ?_
  rintro e w4 ⟨pb, rfl, hpb, hx4, hb4⟩
  have hst4 := hst.later hb4
  have hbw4 := below_next hb4 hbw3
  have hpw : w.heap.size ≤ pb := Nat.le_trans hbw3.size hpb
  have hgp : g ≠ pb := by omega
  clear hst hb4 hbw3 hrow3 hset3
  go_wp2_with fail
  refine (curs_any _ pb tb mb cap nm L S _ _ _ hx4).mono ?_
  rintro e w5 ⟨rfl, q5, hw5⟩
  have hx5 := hx4.drewN q5
  have hst5 := hst4.drewN q5
  have hbw5 := below_drewN hbw4 q5
  rw [← hw5] at hx5 hst5 hbw5
  clear hw5 hx4 hst4 hbw4
  have hsc := hst5.stop (i := 0) (by omega)
  rw [show ((PL.fresh S (types L)).raw : Int) = 0 from rfl, show ((PL.fresh S (types L)).cur : Int) = 0 from rfl, show (PL.fresh S (types L)).next = PL.stop S (types L) 0 from rfl]
  have HX5 := Lib.hid hx5; clear hx5
  generalize hq0 : PL.stop S (types L) 0 = sq at hsc ⊢
  clear hq0
  have hz0 : (0 : Int) ≤ 0 := by omega
  have hz1 : (0 : Int) < (L.length : Int) := by omega
  go_wp2_with fail
  clear hsc
  go_loopg [10, 11, 12, 13, 14, 15] E (fun q _ _ _ jj i _ wx => ∃ m : Nat, q = E - m ∧ m ≤ E ∧ i = .int .i64 m ∧ jj = .int .i64 (PL.cnt S (types L) m : Nat) ∧
    Lx wx pb tb mb cap nm L S ((PL.fresh S (types L)).run S (types L) (PL.cnt S (types L) m)).raw ((PL.fresh S (types L)).run S (types L) (PL.cnt S (types L) m)).next ((PL.fresh S (types L)).run S (types L) (PL.cnt S (types L) m)).cur ∧ Row wx g 3 (stMid S (types L) L.length 0) ∧ Below w.heap.size w wx)
  case atStart => exact ⟨0, rfl, Nat.zero_le _, rfl, rfl, HX5.out, hst5, hbw5⟩
  case round =>
    clear HX5 hst5 hbw5
    obtain ⟨m, hq, hm, rfl, rfl, hx, hst, hb⟩ := hrel
    have KK := Lib.hid hq; clear hq
    obtain ⟨s, hs⟩ : ∃ s, s = (PL.fresh S (types L)).run S (types L) (PL.cnt S (types L) m) := ⟨_, rfl⟩
    rw [← hs] at hx
    obtain ⟨hcu, hnE, hnv, hnl⟩ := state_at HF.out hm hs
    have HNV := Lib.hid hnv; clear hnv
    have HNL := Lib.hid hnl; clear hnl
    have HCU := Lib.hid hcu; clear hcu
    have HS := Lib.hid hs; clear hs
    have hcm := PL.cnt_le (S := S) (T := types L) m
    by_cases hlt : m < E
    · obtain ⟨t, HTT, e0, e1, e2, e3, e4, e5⟩ := hx.row.tok (i := m) (by omega)
      have hne : t.ty ≠ -1 := by have := HF.out.none m hlt; rwa [at_types, ← HTT.out] at this
      have hvm : PL.vis S (types L) m = !S t.ty := by rw [vis_at, ← HTT.out]; simp [hne]
      have hto : t.off = (m : Int) := by rw [HTT.out, HA.out m (by omega)]
      have hwf : (Lit.int .i64 t.ty).wf = true := HW.out _ (by rw [HTT.out, List.getD_eq_getElem?_getD, List.getElem?_eq_getElem (by omega)]; simp)
      have hlk := hx.set.run Try.underlying45 Try.underlying4 Try.underlying39 (zeroBool _) hwf
      have hcs : PL.cnt S (types L) (m + 1) = PL.cnt S (types L) m + (if S t.ty then 0 else 1) := by
        rw [cnt_succ, hvm]; cases S t.ty <;> rfl
      have HCS := Lib.hid hcs; clear hcs
      have HVM := Lib.hid hvm; clear hvm
      have HTO := Lib.hid hto; clear hto
      have HNE := Lib.hid hne; clear hne hwf
      have hi0 : (0 : Int) ≤ (m : Int) := by omega
      have hi1 : (m : Int) < (L.length : Int) := by omega
      cases hS : S t.ty
      · rw [hS] at hlk
        have hnm : s.next = m := HNV.out hlt (by rw [HVM.out, hS]; rfl)
        have hstep : s.step S (types L) = ⟨m + 1, PL.stop S (types L) (m + 1), PL.cnt S (types L) m + 1⟩ := by
          rw [step_on (by rw [hnm, at_types, ← HTT.out]; exact HNE.out), hnm, HCU.out]
        have hrun : (PL.fresh S (types L)).run S (types L) (PL.cnt S (types L) (m + 1)) = ⟨m + 1, PL.stop S (types L) (m + 1), PL.cnt S (types L) m + 1⟩ := by
          rw [HCS.out, hS, ← hstep, HS.out]; rfl
        have hcs : PL.cnt S (types L) (m + 1) = PL.cnt S (types L) m + 1 := by rw [HCS.out, hS]; rfl
        have HNM := Lib.hid hnm; clear hnm
        have HST := Lib.hid hstep; clear hstep
        have HRU := Lib.hid hrun; clear hrun
        have HC1 := Lib.hid hcs; clear hcs hS
        go_wp2_with fail
        refine (next_any _ pb tb mb cap nm L S s hx E HF.out hEL hnE (by rw [HCU.out]; omega)).mono ?_
        unfold NextPost
        rw [HST.out, HNM.out]
        rintro e w7 ⟨rfl, hg7, hx7⟩
        have hst7 := hst.grown hg7 (fun e => by injection e with e; exact hgp e)
        have hb7 : Below w.heap.size w w7 := hb.grown hg7 hb.size (fun k hk => by injection hk with hk; omega)
        clear e0 e1 e2 e3 e4 e5 hg7 hx hst hb hlk
        obtain ⟨t', HT2, e0, e1, e2, e3, e4, e5⟩ := hx7.row.tok (i := m) (by omega)
        obtain rfl : t' = t := by rw [HT2.out, HTT.out]
        rw [HTO.out] at e3
        go_wp2_with fail
        go_quiet (fail)
        go_wp2_with fail
        have hx8 := hx7.drewN nq
        have hst8 := hst7.drewN nq
        have hb8 := below_drewN hb7 nq
        refine (curs_any _ pb tb mb cap nm L S _ _ _ hx8).mono ?_
        rintro e w9 ⟨rfl, q9, hw9⟩
        have hx9 := hx8.drewN q9
        have hst9 := hst8.drewN q9
        have hb9 := below_drewN hb8 q9
        rw [← hw9] at hx9 hst9 hb9
        have hsc := hst9.stop (i := m + 1) (by omega)
        clear e0 e1 e2 e3 e4 e5 hx7 hst7 hb7 hx8 hst8 hb8 hw9
        obtain ⟨sq', hsq⟩ : ∃ q, q = PL.stop S (types L) (m + 1) := ⟨_, rfl⟩
        rw [← hsq] at hsc ⊢
        have HSQ := Lib.hid hsq; clear hsq
        have hi2 : (0 : Int) ≤ (m : Int) + 1 := by omega
        have hi3 : (m : Int) + 1 < (L.length : Int) := by omega
        rw [show (((⟨m + 1, PL.stop S (types L) (m + 1), PL.cnt S (types L) m + 1⟩ : PL.St).raw : Nat) : Int) = (m : Int) + 1 by simp, show (((⟨m + 1, PL.stop S (types L) (m + 1), PL.cnt S (types L) m + 1⟩ : PL.St).cur : Nat) : Int) = (PL.cnt S (types L) m : Int) + 1 by simp]
        go_wp2_with fail
        go_roundg (E - (m + 1))
        case measure => rw [KK.out]; omega
        case rel =>
          refine ⟨m + 1, rfl, by omega, by go_num, by rw [HC1.out]; go_num, ?_, hst9, hb9⟩
          rw [HRU.out]
          exact hx9
      · rw [hS] at hlk
        go_wp2_with fail
        go_roundg (E - (m + 1))
        case measure => rw [KK.out]; omega
        case rel =>
          have hcs : PL.cnt S (types L) (m + 1) = PL.cnt S (types L) m := by rw [HCS.out, hS]; rfl
          refine ⟨m + 1, rfl, by omega, by go_num, by rw [hcs], ?_, hst, hb⟩
          rw [hcs, ← HS.out]
          exact hx
    · obtain rfl : E = m := by omega
      have hnm : s.next = E := HNL.out rfl
      have hstep : s.step S (types L) = s := step_eof (by rw [hnm]; exact HF.out.eof)
      rw [hnm] at hx
      obtain ⟨r, hr⟩ : ∃ r : Int, r = (s.raw : Int) := ⟨_, rfl⟩
      obtain ⟨c, hc⟩ : ∃ c : Int, c = (s.cur : Int) := ⟨_, rfl⟩
      have HR := Lib.hid hr
      have HC := Lib.hid hc
      rw [← hr, ← hc] at hx
      clear hr hc
      have HNM := Lib.hid hnm; clear hnm
      have HST := Lib.hid hstep; clear hstep
      go_wp2_with fail
      refine (curs_any _ pb tb mb cap nm L S _ _ _ hx).mono ?_
      rintro e w6 ⟨rfl, q6, hw6⟩
      have hx6 := hx.drewN q6
      have hb6 := below_drewN hb q6
      rw [← hw6] at hx6 hb6
      clear hw6 hx hb hst
      go_wp2_with fail
      go_loopg [10, 11, 12, 19, 20] 2 (fun q _ _ _ i _ wx => ∃ k : Nat, q = 2 - k ∧ k ≤ 2 ∧ i = .int .i64 k ∧ Lx wx pb tb mb cap nm L S r (E : Nat) c ∧ Below w.heap.size w wx)
      case atStart => exact ⟨0, rfl, by omega, rfl, hx6, hb6⟩
      case round =>
        clear hx6 hb6
        obtain ⟨k, hq, hk, rfl, hx, hb⟩ := hrel
        have KK2 := Lib.hid hq; clear hq
        by_cases hlt2 : k < 2
        · have hx' := hx
          rw [HR.out, HC.out, ← HNM.out] at hx'
          have HX' := Lib.hid hx'; clear hx'
          have hmc : (E : Int) = (s.next : Int) := by rw [HNM.out]
          go_wp2_with fail
          refine (next_any _ pb tb mb cap nm L S s HX'.out E HF.out hEL hnE (by rw [HCU.out]; omega)).mono ?_
          unfold NextPost
          rw [HST.out, HNM.out]
          rintro e w7 ⟨rfl, hg7, hx7⟩
          rw [← HR.out, ← HC.out] at hx7
          have hb7 : Below w.heap.size w w7 := hb.grown hg7 hb.size (fun k hk => by injection hk with hk; omega)
          clear hg7 hx hb HX' hmc
          obtain ⟨t, HTT, e0, e1, e2, e3, e4, e5⟩ := hx7.row.tok (i := E) (by omega)
          have HTE : Hid (t.ty = -1) := by have := HF.out.eof; rw [at_types, ← HTT.out] at this; exact this
          have HTO : Hid (t.off = (E : Int)) := by rw [HTT.out, HA.out E (by omega)]; exact rfl
          go_wp2_with fail
          refine (eof_yes t _ HTE).mono ?_
          rintro e w8 ⟨rfl, hb8⟩
          have hx8 := hx7.later hb8
          have hbw8 := below_next hb8 hb7
          clear e0 e1 e2 e3 e4 e5 hx7 hb7 hb8
          obtain ⟨t', HT2, e0, e1, e2, e3, e4, e5⟩ := hx8.row.tok (i := E) (by omega)
          obtain rfl : t' = t := by rw [HT2.out, HTT.out]
          rw [HTO.out] at e3
          go_wp2_with fail
          refine (curs_any _ pb tb mb cap nm L S _ _ _ hx8).mono ?_
          rintro e w9 ⟨rfl, q9, hw9⟩
          have hx9 := hx8.drewN q9
          have hb9 := below_drewN hbw8 q9
          rw [← hw9] at hx9 hb9
          clear hw9 e0 e1 e2 e3 e4 e5 hx8 hbw8
          go_wp2_with fail
          go_roundg (2 - (k + 1))
          case measure => rw [KK2.out]; omega
          case rel => exact ⟨k + 1, rfl, by omega, by go_num, hx9, hb9⟩
        · go_wp2_with fail
          go_ret
          exact ⟨rfl, hb⟩
end fnNextEnumeratesVisibleTokens
end Go.Proofs.Ytnbpddcgpjjibaa
