/-
  The walk of FnFastForwardLandsPastTarget: FastForward leaves the cursors as the index model says. Conditions: none beyond the statement's own.
-/
import Derived.Test.YtnbpddcgpjjibaaT4B
namespace Go.Proofs.Ytnbpddcgpjjibaa
open Go.RowKit
set_option linter.unusedSimpArgs false
set_option linter.unusedVariables false

namespace fnFastForwardLandsPastTarget
theorem zz (A0 : Option Addr) (n0 c0 : Nat) (A1 : Option Addr) (n1 c1 : Nat) (r : Int) (w : World) (h0 : n0 ≤ maxLen) (h1 : n1 ≤ maxLen) :
    Calls Try.prog 42 #[.slice A0 n0 c0, .slice A1 n1 c1, .int .i64 r] w (BoolAny w) := by
  unfold maxLen at h0 h1
  go_enter Try.func42, Try.ntmps42
  go_wp2_with fail
  all_goals (go_ret; exact ⟨_, rfl, rfl⟩)

set_option maxHeartbeats 2000000 in
set_option maxRecDepth 100000 in
theorem walk (A0 : Option Addr) (n0 c0 : Nat) (z0 : List Int) (A1 : Option Addr) (n1 c1 : Nat) (z1 : List Int) (r : Int) (w : World)
    (ht : Ints .i64 w A0 n0 z0) (he : Ints .i64 w A1 n1 z1) (_ : (Lit.int .i64 r).wf = true) :
    Calls Try.prog 11 #[.slice A0 n0 c0, .slice A1 n1 c1, .int .i64 r] w fun e w' => e = .returned (.bool true) ∧ Below w.heap.size w w' := by
  have hm0 := ht.2.1
  have hm1 := he.2.1
  have HT := Lib.hid ht; clear ht
  have HE := Lib.hid he; clear he
  by_cases hsmall : n0 ≤ 32768 ∧ n1 ≤ 32768
  case neg =>
    go_enter Try.func11, Try.ntmps11
    go_wp2_with fail
    refine (zz A0 n0 c0 A1 n1 c1 r _ hm0 hm1).mono ?_
    rintro e w1 ⟨b, rfl, rfl⟩
    unfold maxLen at hm0 hm1
    cases b
    · go_wp2_with fail
      go_ret
      exact ⟨rfl, Below.refl _ _⟩
    · go_wp2_with fail
      all_goals first | (exfalso; omega) | (go_ret; exact ⟨rfl, Below.refl _ _⟩)
  obtain ⟨hs0, hs1⟩ := hsmall
  have hF := t4_first z0
  have hEl := t4E_le z0
  have hlen := t4_length z0
  rw [HT.out.1] at hEl hlen
  have hwf := t4_wf z0 HT.out.2.2.1
  have hat : ∀ j, j ≤ n0 → (t4 z0).getD j eofTok = ⟨(z0 ++ [-1]).getD j (-1), ByteArray.empty, ByteArray.empty, (j : Int), 0, 0⟩ := fun j hj => t4_at z0 j (by rw [HT.out.1]; exact hj)
  have hla : PL.at_ (types (t4 z0)) n0 = -1 := by rw [at_types, hat n0 (Nat.le_refl _)]; simp [← HT.out.1]
  generalize hEd : t4E z0 = E at *
  generalize hLd : t4 z0 = L at *
  generalize hSd : inS z1 = S at *
  have HLd := Lib.hid hLd; clear hLd
  have HSd := Lib.hid hSd; clear hSd hEd
  have HF := Lib.hid hF; clear hF
  have HW := Lib.hid hwf; clear hwf
  have HA := Lib.hid hat; clear hat
  have HLA := Lib.hid hla; clear hla
  have HL := Lib.hid hlen
  have hlb : L.length ≤ 1048576 := by omega
  have hl0 : 0 < L.length := by omega
  have hEL : E < L.length := by omega
  have hln : n0 < L.length := by omega
  have hln2 : L.length ≤ n0 + 1 := by omega
  clear hlen
  obtain ⟨R, hR⟩ : ∃ R, R = PL.ffRaw E r 0 := ⟨_, rfl⟩
  have hRE : R ≤ E := by rw [hR]; exact PL.ffRaw_le (Nat.zero_le _)
  have hff : PL.St.ff S (types L) E r (PL.fresh S (types L)) = ⟨R, PL.stop S (types L) R, PL.cnt S (types L) R⟩ := by
    show PL.St.mk (PL.ffRaw E r 0) _ _ = _
    rw [show (PL.fresh S (types L)).raw = 0 from rfl, show (PL.fresh S (types L)).cur = 0 from rfl, ← hR]
    simp [PL.cnt]
  have hRv : (r < 0 → R = 0) ∧ (0 ≤ r → r < E → R = r.toNat + 1) ∧ (0 ≤ r → E ≤ r → R = E) := by
    rw [hR]; unfold PL.ffRaw
    refine ⟨fun h => ?_, fun h1 h2 => ?_, fun h1 h2 => ?_⟩ <;> split <;> omega
  have HFF := Lib.hid hff; clear hff
  have HRV := Lib.hid hRv; clear hRv hR
  have hcR := PL.cnt_le (S := S) (T := types L) R
  go_enter Try.func11, Try.ntmps11
  go_wp2_with fail
  refine (zz A0 n0 c0 A1 n1 c1 r _ hm0 hm1).mono ?_
  rintro e w0 ⟨b, rfl, rfl⟩
  unfold maxLen at hm0 hm1
  cases b
  · go_wp2_with fail
    go_ret
    exact ⟨rfl, Below.refl _ _⟩
  go_wp2_with fail
  refine (toks_any A0 n0 c0 z0 _ HT.out hs0).mono ?_
  rw [HLd.out]
  rintro e w1 ⟨tb, cap, rfl, htb, hrow, hb1⟩
  go_wp2_with fail
  refine (elide_any A1 n1 c1 z1 _ (HE.out.later hb1) (by omega)).mono ?_
  rw [HSd.out]
  rintro e w2 ⟨mb, nm, rfl, hmb, hset, hb2⟩
  have hrow2 := hrow.later hb2
  have hbw : Below w.heap.size w w2 := below_next hb2 hb1
  have hmb2 : w.heap.size ≤ mb := Nat.le_trans hb1.size hmb
  clear hrow hb1 hb2 hmb
  go_wp2_with fail
  refine (stops_any _ tb mb cap nm L S hrow2 hset HW.out hlb hl0 (by rw [HL.out]; exact HLA.out)).mono ?_
  rintro e w3 ⟨g, cg, rfl, hg, hst, hb3⟩
  have hrow3 := hrow2.later hb3
  have hset3 := hset.later hb3
  have hbw3 := below_next hb3 hbw
  have hgl := hst.lt
  have hgw : w.heap.size ≤ g := Nat.le_trans hbw.size hg
  clear hrow2 hset hb3 hbw
  go_wp2_with fail
  refine (zeof_any _ tb cap L hrow3 hlb E HF.out hEL).mono ?_
  rintro e w3' ⟨rfl, rfl⟩
  go_wp2_with fail
  refine (fresh_any _ tb mb cap nm L S hrow3 hset3 HW.out hlb E HF.out hEL).mono ?_
  rintro e w4 ⟨pb, rfl, hpb, hx4, hb4⟩
  have hst4 := hst.later hb4
  have hbw4 := below_next hb4 hbw3
  have hpz := hbw3.size
  clear hst hb4
  go_wp2_with fail
  refine (ff_any _ pb tb mb cap nm L S _ r hx4 E HF.out hEL (Nat.zero_le _) (Nat.zero_le _) (by omega)).mono ?_
  rw [HFF.out]
  rintro e w5 ⟨rfl, hg5, hx5⟩
  have hst5 := hst4.grown hg5 (fun e => by injection e with e; omega)
  have hbw5 : Below w.heap.size w w5 := hbw4.grown hg5 hbw4.size (fun k hk => by injection hk with hk; omega)
  clear hst4 hg5 hbw4
  go_wp2_with fail
  refine (curs_any _ pb tb mb cap nm L S _ _ _ hx5).mono ?_
  rintro e w6 ⟨rfl, q6, hw6⟩
  have hx6 := hx5.drewN q6
  have hst6 := hst5.drewN q6
  have hbw6 : Below w.heap.size w w6 := by rw [hw6]; exact below_drewN hbw5 _
  rw [← hw6] at hx6 hst6
  have hc6 := hst6.stop (i := R) (by omega)
  clear hw6 hx5 hst5 hbw5 hx4 hrow3 hset3
  rcases Int.lt_or_le r 0 with hr | hr
  case inl =>
    have hRw : R = 0 := HRV.out.1 hr
    have hbq : ((R : Int) == 0) = true := by simp; omega
    have hi0 : (0 : Int) ≤ 0 := by omega
    have hi1 : 0 < (L.length : Int) := by omega
    have hlt1 : ∀ j : Nat, j < R → (j : Int) < 0 := fun j h => by omega
    have hlt2 : ∀ j : Nat, ¬ j < R → ¬ (j : Int) < 0 := fun j h => by omega
    rw [show (⟨g, R, none⟩ : Addr) = ⟨g, 0, none⟩ by rw [hRw]] at hc6
    have HLT1 := Lib.hid hlt1
    have HLT2 := Lib.hid hlt2
    have HRw := Lib.hid hRw
    clear hRw hlt1 hlt2
    have HC6 := Lib.hid hc6; clear hc6
    go_wp2_with fail
    go_loopg [16, 17] R (fun k c i wr => ∃ j : Nat, k = R - j ∧ j ≤ R ∧ i = .int .i64 j ∧ c = .int .i64 (PL.cnt S (types L) j : Nat) ∧ wr = w6)
    case atStart => exact ⟨0, rfl, Nat.zero_le _, rfl, rfl, rfl⟩
    case round =>
      obtain ⟨j, hk, hj, rfl, rfl, rfl⟩ := hrel
      have KK := Lib.hid hk; clear hk
      by_cases hlt : j < R
      · have := HRw.out; omega
      · have hltW := HLT2.out j hlt
        obtain rfl : R = j := by omega
        have hc6 := HC6.out
        go_wp2_with fail
        go_ret
        exact ⟨rfl, hbw6⟩
  case inr =>
    obtain ⟨k, rfl⟩ : ∃ k : Nat, r = k := ⟨r.toNat, by omega⟩
    rcases Nat.lt_or_ge k E with hk | hk
    case inl =>
      have hkE : (k : Int) < (E : Int) := by omega
      have hRw : R = k + 1 := (HRV.out.2.1 hr (by omega)).trans (by simp)
      have hbq : ((R : Int) == ((k : Int) + 1)) = true := by simp; omega
      have hi0 : (0 : Int) ≤ ((k : Int) + 1) := by omega
      have hi1 : ((k : Int) + 1) < (L.length : Int) := by omega
      have hlt1 : ∀ j : Nat, j < R → (j : Int) < ((k : Int) + 1) := fun j h => by omega
      have hlt2 : ∀ j : Nat, ¬ j < R → ¬ (j : Int) < ((k : Int) + 1) := fun j h => by omega
      rw [show (⟨g, R, none⟩ : Addr) = ⟨g, k + 1, none⟩ by rw [hRw]] at hc6
      have HLT1 := Lib.hid hlt1
      have HLT2 := Lib.hid hlt2
      have HRw := Lib.hid hRw
      clear hRw hlt1 hlt2
      have HC6 := Lib.hid hc6; clear hc6
      go_wp2_with fail
      go_loopg [16, 17] R (fun k c i wr => ∃ j : Nat, k = R - j ∧ j ≤ R ∧ i = .int .i64 j ∧ c = .int .i64 (PL.cnt S (types L) j : Nat) ∧ wr = w6)
      case atStart => exact ⟨0, rfl, Nat.zero_le _, rfl, rfl, rfl⟩
      case round =>
        obtain ⟨j, hk, hj, rfl, rfl, rfl⟩ := hrel
        have KK := Lib.hid hk; clear hk
        by_cases hlt : j < R
        · have hltW := HLT1.out j hlt
          obtain ⟨t, HT, t0, t1, t2, t3, t4, t5⟩ := hx6.row.tok (i := j) (by omega)
          have hwf : (Lit.int .i64 t.ty).wf = true := HW.out _ (by rw [HT.out, List.getD_eq_getElem?_getD, List.getElem?_eq_getElem (by omega)]; simp)
          have hlk := hx6.set.run Try.underlying45 Try.underlying4 Try.underlying39 (zeroBool _) hwf
          have hj0 : (0 : Int) ≤ (j : Int) := by omega
          have hj1 : (j : Int) < (L.length : Int) := by omega
          have hcj := PL.cnt_le (S := S) (T := types L) j
          have hne : t.ty ≠ -1 := by have := HF.out.none j (by omega); rwa [at_types, ← HT.out] at this
          have hcs : PL.cnt S (types L) (j + 1) = PL.cnt S (types L) j + (if S t.ty then 0 else 1) := by
            rw [cnt_succ, vis_at, ← HT.out]
            cases S t.ty <;> simp [hne]
          have HCS := Lib.hid hcs; clear hcs hne
          cases hS : S t.ty
          · rw [hS] at hlk
            go_wp2_with fail
            go_roundg (R - (j + 1))
            case measure => rw [KK.out]; omega
            case rel => exact ⟨j + 1, rfl, by omega, by go_num, by rw [HCS.out, hS]; go_num, rfl⟩
          · rw [hS] at hlk
            go_wp2_with fail
            go_roundg (R - (j + 1))
            case measure => rw [KK.out]; omega
            case rel => exact ⟨j + 1, rfl, by omega, by go_num, by rw [HCS.out, hS]; go_num, rfl⟩
        · have hltW := HLT2.out j hlt
          obtain rfl : R = j := by omega
          have hc6 := HC6.out
          go_wp2_with fail
          go_ret
          exact ⟨rfl, hbw6⟩
    case inr =>
      have hkE : ¬ (k : Int) < (E : Int) := by omega
      have hRw : R = E := HRV.out.2.2 hr (by omega)
      have hbq : ((R : Int) == (E : Int)) = true := by simp; omega
      have hi0 : (0 : Int) ≤ (E : Int) := by omega
      have hi1 : (E : Int) < (L.length : Int) := by omega
      have hlt1 : ∀ j : Nat, j < R → (j : Int) < (E : Int) := fun j h => by omega
      have hlt2 : ∀ j : Nat, ¬ j < R → ¬ (j : Int) < (E : Int) := fun j h => by omega
      rw [show (⟨g, R, none⟩ : Addr) = ⟨g, E, none⟩ by rw [hRw]] at hc6
      have HLT1 := Lib.hid hlt1
      have HLT2 := Lib.hid hlt2
      have HRw := Lib.hid hRw
      clear hRw hlt1 hlt2
      have HC6 := Lib.hid hc6; clear hc6
      go_wp2_with fail
      go_loopg [16, 17] R (fun k c i wr => ∃ j : Nat, k = R - j ∧ j ≤ R ∧ i = .int .i64 j ∧ c = .int .i64 (PL.cnt S (types L) j : Nat) ∧ wr = w6)
      case atStart => exact ⟨0, rfl, Nat.zero_le _, rfl, rfl, rfl⟩
      case round =>
        obtain ⟨j, hk, hj, rfl, rfl, rfl⟩ := hrel
        have KK := Lib.hid hk; clear hk
        by_cases hlt : j < R
        · have hltW := HLT1.out j hlt
          obtain ⟨t, HT, t0, t1, t2, t3, t4, t5⟩ := hx6.row.tok (i := j) (by omega)
          have hwf : (Lit.int .i64 t.ty).wf = true := HW.out _ (by rw [HT.out, List.getD_eq_getElem?_getD, List.getElem?_eq_getElem (by omega)]; simp)
          have hlk := hx6.set.run Try.underlying45 Try.underlying4 Try.underlying39 (zeroBool _) hwf
          have hj0 : (0 : Int) ≤ (j : Int) := by omega
          have hj1 : (j : Int) < (L.length : Int) := by omega
          have hcj := PL.cnt_le (S := S) (T := types L) j
          have hne : t.ty ≠ -1 := by have := HF.out.none j (by omega); rwa [at_types, ← HT.out] at this
          have hcs : PL.cnt S (types L) (j + 1) = PL.cnt S (types L) j + (if S t.ty then 0 else 1) := by
            rw [cnt_succ, vis_at, ← HT.out]
            cases S t.ty <;> simp [hne]
          have HCS := Lib.hid hcs; clear hcs hne
          cases hS : S t.ty
          · rw [hS] at hlk
            go_wp2_with fail
            go_roundg (R - (j + 1))
            case measure => rw [KK.out]; omega
            case rel => exact ⟨j + 1, rfl, by omega, by go_num, by rw [HCS.out, hS]; go_num, rfl⟩
          · rw [hS] at hlk
            go_wp2_with fail
            go_roundg (R - (j + 1))
            case measure => rw [KK.out]; omega
            case rel => exact ⟨j + 1, rfl, by omega, by go_num, by rw [HCS.out, hS]; go_num, rfl⟩
        · have hltW := HLT2.out j hlt
          obtain rfl : R = j := by omega
          have hc6 := HC6.out
          go_wp2_with fail
          go_ret
          exact ⟨rfl, hbw6⟩
end fnFastForwardLandsPastTarget
end Go.Proofs.Ytnbpddcgpjjibaa
