/-
  The walk of FnFastForwardIdempotentAndComposes: FastForward twice is FastForward once, and the further one of two is what counts. Conditions: none beyond the statement's own.
-/
import Derived.Test.YtnbpddcgpjjibaaT4B
namespace Go.Proofs.Ytnbpddcgpjjibaa
open Go.RowKit
set_option linter.unusedSimpArgs false
set_option linter.unusedVariables false

namespace fnFastForwardIdempotentAndComposes
theorem zz (A0 : Option Addr) (n0 c0 : Nat) (A1 : Option Addr) (n1 c1 : Nat) (r : Int) (s : Int) (w : World) (h0 : n0 ≤ maxLen) (h1 : n1 ≤ maxLen) :
    Calls Try.prog 37 #[.slice A0 n0 c0, .slice A1 n1 c1, .int .i64 r, .int .i64 s] w (BoolAny w) := by
  unfold maxLen at h0 h1
  go_enter Try.func37, Try.ntmps37
  go_wp2_with fail
  all_goals (go_ret; exact ⟨_, rfl, rfl⟩)

set_option maxHeartbeats 2000000 in
set_option maxRecDepth 100000 in
theorem walk (A0 : Option Addr) (n0 c0 : Nat) (z0 : List Int) (A1 : Option Addr) (n1 c1 : Nat) (z1 : List Int) (r : Int) (s : Int) (w : World)
    (ht : Ints .i64 w A0 n0 z0) (he : Ints .i64 w A1 n1 z1) (_ : (Lit.int .i64 r).wf = true) (_ : (Lit.int .i64 s).wf = true) :
    Calls Try.prog 10 #[.slice A0 n0 c0, .slice A1 n1 c1, .int .i64 r, .int .i64 s] w fun e w' => e = .returned (.bool true) ∧ Below w.heap.size w w' := by
  have hm0 := ht.2.1
  have hm1 := he.2.1
  have HT := Lib.hid ht; clear ht
  have HE := Lib.hid he; clear he
  by_cases hsmall : n0 ≤ 32768 ∧ n1 ≤ 32768
  case neg =>
    go_enter Try.func10, Try.ntmps10
    go_wp2_with fail
    refine (zz A0 n0 c0 A1 n1 c1 r s _ hm0 hm1).mono ?_
    rintro e w1 ⟨b, rfl, rfl⟩
    unfold maxLen at hm0 hm1
    cases b
    · go_wp2_with fail
      go_ret
      exact ⟨rfl, Below.refl _ _⟩
    · go_wp2_with fail
      all_goals first | (exfalso; omega) | (go_ret; exact ⟨rfl, Below.refl _ _⟩)
  obtain ⟨hs0, hs1⟩ := hsmall
  have hF := t4_first z0
  have hEl := t4E_le z0
  have hlen := t4_length z0
  rw [HT.out.1] at hEl hlen
  have hwf := t4_wf z0 HT.out.2.2.1
  have hat : ∀ j, j ≤ n0 → (t4 z0).getD j eofTok = ⟨(z0 ++ [-1]).getD j (-1), ByteArray.empty, ByteArray.empty, (j : Int), 0, 0⟩ := fun j hj => t4_at z0 j (by rw [HT.out.1]; exact hj)
  have hla : PL.at_ (types (t4 z0)) n0 = -1 := by rw [at_types, hat n0 (Nat.le_refl _)]; simp [← HT.out.1]
  generalize hEd : t4E z0 = E at *
  generalize hLd : t4 z0 = L at *
  generalize hSd : inS z1 = S at *
  have HLd := Lib.hid hLd; clear hLd
  have HSd := Lib.hid hSd; clear hSd hEd
  have HF := Lib.hid hF; clear hF
  have HW := Lib.hid hwf; clear hwf
  have HA := Lib.hid hat; clear hat
  have HLA := Lib.hid hla; clear hla
  have HL := Lib.hid hlen
  have hlb : L.length ≤ 1048576 := by omega
  have hl0 : 0 < L.length := by omega
  have hEL : E < L.length := by omega
  clear hlen
  by_cases hrs : r ≤ s
  case pos =>
    have hcl : ∀ (s : PL.St) (r : Int), s.raw ≤ E → (s.ff S (types L) E r).raw ≤ E ∧ (s.ff S (types L) E r).cur ≤ s.cur + E := fun s r h => by
      have := PL.cnt_le (S := S) (T := types L) (PL.ffRaw E r s.raw)
      have h2 := PL.ffRaw_le (E := E) (r := r) h
      refine ⟨h2, ?_⟩
      show s.cur + _ ≤ _
      omega
    have hf0 : (PL.fresh S (types L)).raw ≤ E := Nat.zero_le _
    have hf1 : (PL.fresh S (types L)).cur ≤ 0 := Nat.le_refl _
    have HC := Lib.hid hcl; clear hcl
    have HC1 : Hid ((PL.St.ff S (types L) E r (PL.fresh S (types L))).ff S (types L) E r = PL.St.ff S (types L) E r (PL.fresh S (types L))) := PL.ff_comp hf0 (Int.le_refl _)
    have HC2 : Hid ((PL.St.ff S (types L) E r (PL.fresh S (types L))).ff S (types L) E s = PL.St.ff S (types L) E s (PL.fresh S (types L))) := PL.ff_comp hf0 hrs
    obtain ⟨f1, f2⟩ := HC.out (PL.fresh S (types L)) r hf0
    obtain ⟨f3, f4⟩ := HC.out (PL.fresh S (types L)) s hf0
    go_enter Try.func10, Try.ntmps10
    go_wp2_with fail
    refine (zz A0 n0 c0 A1 n1 c1 r s _ hm0 hm1).mono ?_
    rintro e w0 ⟨b, rfl, rfl⟩
    unfold maxLen at hm0 hm1
    cases b
    · go_wp2_with fail
      go_ret
      exact ⟨rfl, Below.refl _ _⟩
    go_wp2_with fail
    refine (toks_any A0 n0 c0 z0 _ HT.out hs0).mono ?_
    rw [HLd.out]
    rintro e w1 ⟨tb, cap, rfl, htb, hrow, hb1⟩
    go_wp2_with fail
    refine (elide_any A1 n1 c1 z1 _ (HE.out.later hb1) (by omega)).mono ?_
    rw [HSd.out]
    rintro e w2 ⟨mb, nm, rfl, hmb, hset, hb2⟩
    have hrow2 := hrow.later hb2
    have hbw : Below w.heap.size w w2 := below_next hb2 hb1
    have hmb2 : w.heap.size ≤ mb := Nat.le_trans hb1.size hmb
    have hb2sz := hbw.size
    clear hrow hb1 hb2 hmb
    go_wp2_with fail
    refine (fresh_any _ tb mb cap nm L S hrow2 hset HW.out hlb E HF.out hEL).mono ?_
    rintro e w3 ⟨p1, rfl, hp1, hx1, hb3⟩
    go_wp2_with fail
    refine (ff_any _ p1 tb mb cap nm L S _ r hx1 E HF.out hEL hf0 (by omega) (by omega)).mono ?_
    rintro e w4 ⟨rfl, hg4, hx1⟩
    have hbw4 : Below w.heap.size w w4 := (below_next hb3 hbw).grown hg4 (below_next hb3 hbw).size (fun k hk => by injection hk with hk; have := hbw.size; omega)
    clear hg4 hb3 hbw
    go_wp2_with fail
    refine (fresh_any _ tb mb cap nm L S hx1.row hx1.set HW.out hlb E HF.out hEL).mono ?_
    rintro e w5 ⟨p2, rfl, hp2, hx2, hb5⟩
    have hp12 : p1 < p2 := Nat.lt_of_lt_of_le hx1.lt hp2
    have hx1 := hx1.later hb5
    have hbw5 := below_next hb5 hbw4
    go_wp2_with fail
    refine (ff_any _ p2 tb mb cap nm L S _ r hx2 E HF.out hEL hf0 (by omega) (by omega)).mono ?_
    rintro e w6 ⟨rfl, hg6, hx2'⟩
    have hx1 := hx1.grown hg6 (fun e => by injection e with e; omega) (fun e => by injection e with e; exact hx2.pb_tb e) (fun e => by injection e with e; exact hx2.mb_pb e)
    have hbw6 : Below w.heap.size w w6 := hbw5.grown hg6 hbw5.size (fun k hk => by injection hk with hk; have := hbw4.size; omega)
    clear hg6 hx2 hb5
    go_wp2_with fail
    refine (ff_any _ p1 tb mb cap nm L S _ r hx1 E HF.out hEL f1 (by omega) (by omega)).mono ?_
    rw [HC1.out]
    rintro e w7 ⟨rfl, hg7, hx1'⟩
    have hx2 := hx2'.grown hg7 (fun e => by injection e with e; omega) (fun e => by injection e with e; exact hx1.pb_tb e) (fun e => by injection e with e; exact hx1.mb_pb e)
    have hp1w : w.heap.size ≤ p1 := Nat.le_trans hb2sz hp1
    have hbw7 : Below w.heap.size w w7 := hbw6.grown hg7 hbw6.size (fun k hk => by injection hk with hk; omega)
    clear hg7 hx1 hx2'
    go_wp2_with fail
    refine (same_any _ p1 tb mb cap nm p2 tb mb cap nm L L S S _ _ _ hx1' hx2).mono ?_
    rintro e w8 ⟨rfl, q8, hw8⟩
    have hx1 := hx1'.drewN q8
    rw [← hw8] at hx1
    have hbw8 : Below w.heap.size w w8 := by rw [hw8]; exact below_drewN hbw7 _
    clear hw8 hx1' hx2
    go_wp2_with fail
    refine (ff_any _ p1 tb mb cap nm L S _ s hx1 E HF.out hEL f1 (by omega) (by omega)).mono ?_
    rw [HC2.out]
    rintro e w9 ⟨rfl, hg9, hx1'⟩
    have hbw9 : Below w.heap.size w w9 := hbw8.grown hg9 hbw8.size (fun k hk => by injection hk with hk; omega)
    clear hg9 hx1
    go_wp2_with fail
    refine (fresh_any _ tb mb cap nm L S hx1'.row hx1'.set HW.out hlb E HF.out hEL).mono ?_
    rintro e wa ⟨p3, rfl, hp3, hx3, hba⟩
    have hp13 : p1 < p3 := Nat.lt_of_lt_of_le hx1'.lt hp3
    have hx1 := hx1'.later hba
    have hbwa := below_next hba hbw9
    go_wp2_with fail
    refine (ff_any _ p3 tb mb cap nm L S _ s hx3 E HF.out hEL hf0 (by omega) (by omega)).mono ?_
    rintro e wb ⟨rfl, hgb, hx3'⟩
    have hx1 := hx1.grown hgb (fun e => by injection e with e; omega) (fun e => by injection e with e; exact hx3.pb_tb e) (fun e => by injection e with e; exact hx3.mb_pb e)
    have hbwb : Below w.heap.size w wb := hbwa.grown hgb hbwa.size (fun k hk => by injection hk with hk; have := hbw9.size; omega)
    clear hgb hx3 hba
    go_wp2_with fail
    refine (same_any _ p1 tb mb cap nm p3 tb mb cap nm L L S S _ _ _ hx1 hx3').mono ?_
    rintro e wc ⟨rfl, qc, hwc⟩
    have hbwc : Below w.heap.size w wc := by rw [hwc]; exact below_drewN hbwb _
    clear hwc
    go_wp2_with fail
    go_ret
    exact ⟨rfl, hbwc⟩
  case neg =>
    have hsr : s < r := by omega
    have hrs : s ≤ r := by omega
    have hcl : ∀ (s : PL.St) (r : Int), s.raw ≤ E → (s.ff S (types L) E r).raw ≤ E ∧ (s.ff S (types L) E r).cur ≤ s.cur + E := fun s r h => by
      have := PL.cnt_le (S := S) (T := types L) (PL.ffRaw E r s.raw)
      have h2 := PL.ffRaw_le (E := E) (r := r) h
      refine ⟨h2, ?_⟩
      show s.cur + _ ≤ _
      omega
    have hf0 : (PL.fresh S (types L)).raw ≤ E := Nat.zero_le _
    have hf1 : (PL.fresh S (types L)).cur ≤ 0 := Nat.le_refl _
    have HC := Lib.hid hcl; clear hcl
    have HC1 : Hid ((PL.St.ff S (types L) E s (PL.fresh S (types L))).ff S (types L) E s = PL.St.ff S (types L) E s (PL.fresh S (types L))) := PL.ff_comp hf0 (Int.le_refl _)
    have HC2 : Hid ((PL.St.ff S (types L) E s (PL.fresh S (types L))).ff S (types L) E r = PL.St.ff S (types L) E r (PL.fresh S (types L))) := PL.ff_comp hf0 hrs
    obtain ⟨f1, f2⟩ := HC.out (PL.fresh S (types L)) s hf0
    obtain ⟨f3, f4⟩ := HC.out (PL.fresh S (types L)) r hf0
    go_enter Try.func10, Try.ntmps10
    go_wp2_with fail
    refine (zz A0 n0 c0 A1 n1 c1 r s _ hm0 hm1).mono ?_
    rintro e w0 ⟨b, rfl, rfl⟩
    unfold maxLen at hm0 hm1
    cases b
    · go_wp2_with fail
      go_ret
      exact ⟨rfl, Below.refl _ _⟩
    go_wp2_with fail
    refine (toks_any A0 n0 c0 z0 _ HT.out hs0).mono ?_
    rw [HLd.out]
    rintro e w1 ⟨tb, cap, rfl, htb, hrow, hb1⟩
    go_wp2_with fail
    refine (elide_any A1 n1 c1 z1 _ (HE.out.later hb1) (by omega)).mono ?_
    rw [HSd.out]
    rintro e w2 ⟨mb, nm, rfl, hmb, hset, hb2⟩
    have hrow2 := hrow.later hb2
    have hbw : Below w.heap.size w w2 := below_next hb2 hb1
    have hmb2 : w.heap.size ≤ mb := Nat.le_trans hb1.size hmb
    have hb2sz := hbw.size
    clear hrow hb1 hb2 hmb
    go_wp2_with fail
    refine (fresh_any _ tb mb cap nm L S hrow2 hset HW.out hlb E HF.out hEL).mono ?_
    rintro e w3 ⟨p1, rfl, hp1, hx1, hb3⟩
    go_wp2_with fail
    refine (ff_any _ p1 tb mb cap nm L S _ s hx1 E HF.out hEL hf0 (by omega) (by omega)).mono ?_
    rintro e w4 ⟨rfl, hg4, hx1⟩
    have hbw4 : Below w.heap.size w w4 := (below_next hb3 hbw).grown hg4 (below_next hb3 hbw).size (fun k hk => by injection hk with hk; have := hbw.size; omega)
    clear hg4 hb3 hbw
    go_wp2_with fail
    refine (fresh_any _ tb mb cap nm L S hx1.row hx1.set HW.out hlb E HF.out hEL).mono ?_
    rintro e w5 ⟨p2, rfl, hp2, hx2, hb5⟩
    have hp12 : p1 < p2 := Nat.lt_of_lt_of_le hx1.lt hp2
    have hx1 := hx1.later hb5
    have hbw5 := below_next hb5 hbw4
    go_wp2_with fail
    refine (ff_any _ p2 tb mb cap nm L S _ s hx2 E HF.out hEL hf0 (by omega) (by omega)).mono ?_
    rintro e w6 ⟨rfl, hg6, hx2'⟩
    have hx1 := hx1.grown hg6 (fun e => by injection e with e; omega) (fun e => by injection e with e; exact hx2.pb_tb e) (fun e => by injection e with e; exact hx2.mb_pb e)
    have hbw6 : Below w.heap.size w w6 := hbw5.grown hg6 hbw5.size (fun k hk => by injection hk with hk; have := hbw4.size; omega)
    clear hg6 hx2 hb5
    go_wp2_with fail
    refine (ff_any _ p1 tb mb cap nm L S _ s hx1 E HF.out hEL f1 (by omega) (by omega)).mono ?_
    rw [HC1.out]
    rintro e w7 ⟨rfl, hg7, hx1'⟩
    have hx2 := hx2'.grown hg7 (fun e => by injection e with e; omega) (fun e => by injection e with e; exact hx1.pb_tb e) (fun e => by injection e with e; exact hx1.mb_pb e)
    have hp1w : w.heap.size ≤ p1 := Nat.le_trans hb2sz hp1
    have hbw7 : Below w.heap.size w w7 := hbw6.grown hg7 hbw6.size (fun k hk => by injection hk with hk; omega)
    clear hg7 hx1 hx2'
    go_wp2_with fail
    refine (same_any _ p1 tb mb cap nm p2 tb mb cap nm L L S S _ _ _ hx1' hx2).mono ?_
    rintro e w8 ⟨rfl, q8, hw8⟩
    have hx1 := hx1'.drewN q8
    rw [← hw8] at hx1
    have hbw8 : Below w.heap.size w w8 := by rw [hw8]; exact below_drewN hbw7 _
    clear hw8 hx1' hx2
    go_wp2_with fail
    refine (ff_any _ p1 tb mb cap nm L S _ r hx1 E HF.out hEL f1 (by omega) (by omega)).mono ?_
    rw [HC2.out]
    rintro e w9 ⟨rfl, hg9, hx1'⟩
    have hbw9 : Below w.heap.size w w9 := hbw8.grown hg9 hbw8.size (fun k hk => by injection hk with hk; omega)
    clear hg9 hx1
    go_wp2_with fail
    refine (fresh_any _ tb mb cap nm L S hx1'.row hx1'.set HW.out hlb E HF.out hEL).mono ?_
    rintro e wa ⟨p3, rfl, hp3, hx3, hba⟩
    have hp13 : p1 < p3 := Nat.lt_of_lt_of_le hx1'.lt hp3
    have hx1 := hx1'.later hba
    have hbwa := below_next hba hbw9
    go_wp2_with fail
    refine (ff_any _ p3 tb mb cap nm L S _ r hx3 E HF.out hEL hf0 (by omega) (by omega)).mono ?_
    rintro e wb ⟨rfl, hgb, hx3'⟩
    have hx1 := hx1.grown hgb (fun e => by injection e with e; omega) (fun e => by injection e with e; exact hx3.pb_tb e) (fun e => by injection e with e; exact hx3.mb_pb e)
    have hbwb : Below w.heap.size w wb := hbwa.grown hgb hbwa.size (fun k hk => by injection hk with hk; have := hbw9.size; omega)
    clear hgb hx3 hba
    go_wp2_with fail
    refine (same_any _ p1 tb mb cap nm p3 tb mb cap nm L L S S _ _ _ hx1 hx3').mono ?_
    rintro e wc ⟨rfl, qc, hwc⟩
    have hbwc : Below w.heap.size w wc := by rw [hwc]; exact below_drewN hbwb _
    clear hwc
    go_wp2_with fail
    go_ret
    exact ⟨rfl, hbwc⟩
end fnFastForwardIdempotentAndComposes
end Go.Proofs.Ytnbpddcgpjjibaa
