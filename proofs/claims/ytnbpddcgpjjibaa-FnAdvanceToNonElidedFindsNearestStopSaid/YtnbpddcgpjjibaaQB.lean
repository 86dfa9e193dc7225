/-
  The walk of FnAdvanceToNonElidedFindsNearestStop: advanceToNonElided lands on the nearest stop and moves nothing else. Conditions: none beyond the statement's own.
-/
import Derived.Test.YtnbpddcgpjjibaaT4B
namespace Go.Proofs.Ytnbpddcgpjjibaa
open Go.RowKit
set_option linter.unusedSimpArgs false
set_option linter.unusedVariables false

namespace fnAdvanceToNonElidedFindsNearestStop
theorem zz (A0 : Option Addr) (n0 c0 : Nat) (A1 : Option Addr) (n1 c1 : Nat) (n : Int) (m : Int) (a : Int) (c : Int) (w : World) (h0 : n0 ≤ maxLen) (h1 : n1 ≤ maxLen) :
    Calls Try.prog 47 #[.slice A0 n0 c0, .slice A1 n1 c1, .int .i64 n, .int .i64 m, .int .i64 a, .int .i64 c] w (BoolAny w) := by
  unfold maxLen at h0 h1
  go_enter Try.func47, Try.ntmps47
  go_wp2_with fail
  all_goals (go_ret; exact ⟨_, rfl, rfl⟩)

set_option maxHeartbeats 2000000 in
set_option maxRecDepth 100000 in
theorem walk (A0 : Option Addr) (n0 c0 : Nat) (z0 : List Int) (A1 : Option Addr) (n1 c1 : Nat) (z1 : List Int) (n : Int) (m : Int) (a : Int) (c : Int) (w : World)
    (ht : Ints .i64 w A0 n0 z0) (he : Ints .i64 w A1 n1 z1) (_ : (Lit.int .i64 n).wf = true) (_ : (Lit.int .i64 m).wf = true) (_ : (Lit.int .i64 a).wf = true) (_ : (Lit.int .i64 c).wf = true) :
    Calls Try.prog 13 #[.slice A0 n0 c0, .slice A1 n1 c1, .int .i64 n, .int .i64 m, .int .i64 a, .int .i64 c] w fun e w' => e = .returned (.bool true) ∧ Below w.heap.size w w' := by
  have hm0 := ht.2.1
  have hm1 := he.2.1
  have HT := Lib.hid ht; clear ht
  have HE := Lib.hid he; clear he
  by_cases hsmall : n0 ≤ 32768 ∧ n1 ≤ 32768 ∧ 0 ≤ n ∧ n ≤ n0 ∧ 0 ≤ m ∧ m ≤ n0
  case neg =>
    go_enter Try.func13, Try.ntmps13
    go_wp2_with fail
    refine (zz A0 n0 c0 A1 n1 c1 n m a c _ hm0 hm1).mono ?_
    rintro e w1 ⟨b, rfl, rfl⟩
    unfold maxLen at hm0 hm1
    cases b
    · go_wp2_with fail
      go_ret
      exact ⟨rfl, Below.refl _ _⟩
    · go_wp2_with fail
      all_goals first | (exfalso; omega) | (go_ret; exact ⟨rfl, Below.refl _ _⟩)
  obtain ⟨hs0, hs1, hn0, hn1, hq0, hq1⟩ := hsmall
  obtain ⟨N, rfl⟩ : ∃ N : Nat, n = N := ⟨n.toNat, by omega⟩
  obtain ⟨M, rfl⟩ : ∃ M : Nat, m = M := ⟨m.toNat, by omega⟩
  have hF := t4_first z0
  have hEl := t4E_le z0
  have hlen := t4_length z0
  rw [HT.out.1] at hEl hlen
  have hwf := t4_wf z0 HT.out.2.2.1
  have hat : ∀ j, j ≤ n0 → (t4 z0).getD j eofTok = ⟨(z0 ++ [-1]).getD j (-1), ByteArray.empty, ByteArray.empty, (j : Int), 0, 0⟩ := fun j hj => t4_at z0 j (by rw [HT.out.1]; exact hj)
  have hla : PL.at_ (types (t4 z0)) n0 = -1 := by rw [at_types, hat n0 (Nat.le_refl _)]; simp [← HT.out.1]
  generalize hEd : t4E z0 = E at *
  generalize hLd : t4 z0 = L at *
  generalize hSd : inS z1 = S at *
  have HLd := Lib.hid hLd; clear hLd
  have HSd := Lib.hid hSd; clear hSd hEd
  have HF := Lib.hid hF; clear hF
  have HW := Lib.hid hwf; clear hwf
  have HA := Lib.hid hat; clear hat
  have HLA := Lib.hid hla; clear hla
  have HL := Lib.hid hlen
  have hlb : L.length ≤ 1048576 := by omega
  have hl0 : 0 < L.length := by omega
  have hEL : E < L.length := by omega
  have hln : n0 < L.length := by omega
  have hln2 : L.length ≤ n0 + 1 := by omega
  clear hlen
  have hsp : ∀ k, k ≤ n0 → PL.stop S (types L) k ≤ n0 := fun k hk => by
    have e : PL.stop S (types L) n0 = n0 := PL.stop_of_stop (by simp [PL.isStop, HLA.out])
    rw [← e]; exact PL.stop_mono hk
  have hsN := hsp N (by omega)
  have hsM := hsp M (by omega)
  have hmono : N ≤ M → PL.stop S (types L) N ≤ PL.stop S (types L) M := fun h => PL.stop_mono h
  have hidem : PL.stop S (types L) (PL.stop S (types L) N) = PL.stop S (types L) N := PL.stop_of_stop (PL.stop_spec _).2
  clear hsp
  have HMO := Lib.hid hmono; clear hmono
  have HID := Lib.hid hidem; clear hidem
  go_enter Try.func13, Try.ntmps13
  go_wp2_with fail
  refine (zz A0 n0 c0 A1 n1 c1 N M a c _ hm0 hm1).mono ?_
  rintro e w0 ⟨b, rfl, rfl⟩
  unfold maxLen at hm0 hm1
  cases b
  · go_wp2_with fail
    go_ret
    exact ⟨rfl, Below.refl _ _⟩
  go_wp2_with fail
  refine (toks_any A0 n0 c0 z0 _ HT.out hs0).mono ?_
  rw [HLd.out]
  rintro e w1 ⟨tb, cap, rfl, htb, hrow, hb1⟩
  go_wp2_with fail
  refine (elide_any A1 n1 c1 z1 _ (HE.out.later hb1) (by omega)).mono ?_
  rw [HSd.out]
  rintro e w2 ⟨mb, nm, rfl, hmb, hset, hb2⟩
  have hrow2 := hrow.later hb2
  have hbw : Below w.heap.size w w2 := below_next hb2 hb1
  have hmb2 : w.heap.size ≤ mb := Nat.le_trans hb1.size hmb
  clear hrow hb1 hb2 hmb
  go_wp2_with fail
  refine (stops_any _ tb mb cap nm L S hrow2 hset HW.out hlb hl0 (by rw [HL.out]; exact HLA.out)).mono ?_
  rintro e w3 ⟨g, cg, rfl, hg, hst, hb3⟩
  have hrow3 := hrow2.later hb3
  have hset3 := hset.later hb3
  have hbw3 := below_next hb3 hbw
  have hgl := hst.lt
  clear hrow2 hset hb3 hbw
  go_wp2_with fail
  refine (new4_any _ tb mb cap nm L S a N c hrow3 hset3 HW.out hlb).mono ?_
  rintro e w4 ⟨rfl, hx4, hb4⟩
  have hst4 := hst.later hb4
  have hbw4 := below_next hb4 hbw3
  have hpz := hbw3.size
  obtain ⟨pb, hpb⟩ : ∃ pb, pb = w3.heap.size := ⟨_, rfl⟩
  rw [← hpb] at hx4 hgl hpz ⊢
  clear hst hb4 hpb
  go_wp2_with fail
  refine (advz_any _ pb tb mb cap nm L S a c N hx4 (by omega)).mono ?_
  rintro e w5 ⟨rfl, hg5, hx5⟩
  have hst5 := hst4.grown hg5 (fun e => by injection e with e; omega)
  have hbw5 : Below w.heap.size w w5 := hbw4.grown hg5 hbw4.size (fun k hk => by injection hk with hk; omega)
  clear hst4 hg5 hbw4
  go_wp2_with fail
  refine (curs_any _ pb tb mb cap nm L S _ _ _ hx5).mono ?_
  rintro e w6 ⟨rfl, q6, hw6⟩
  have hx6 := hx5.drewN q6
  have hst6 := hst5.drewN q6
  have hbw6 : Below w.heap.size w w6 := by rw [hw6]; exact below_drewN hbw5 _
  rw [← hw6] at hx6 hst6
  have hc6 := hst6.stop (i := N) (by omega)
  obtain ⟨sN, hsd⟩ : ∃ s, s = PL.stop S (types L) N := ⟨_, rfl⟩
  rw [← hsd] at hc6 hx6 hsN ⊢
  have HSD := Lib.hid hsd; clear hsd
  clear hw6 hx5 hst5 hbw5
  have hi0 : (0 : Int) ≤ (N : Int) := by omega
  have hi1 : (N : Int) < (L.length : Int) := by omega
  go_wp2_with fail
  refine (advz_any _ pb tb mb cap nm L S a c sN hx6 (by rw [HSD.out, HID.out, ← HSD.out]; omega)).mono ?_
  rw [HSD.out]
  unfold Adv
  rw [HID.out, ← HSD.out]
  rintro e w7 ⟨rfl, hg7, hx7⟩
  have hst7 := hst6.grown hg7 (fun e => by injection e with e; omega)
  have hbw7 : Below w.heap.size w w7 := hbw6.grown hg7 hbw6.size (fun k hk => by injection hk with hk; omega)
  clear hg7 hx6 hst6 hbw6 hc6
  go_wp2_with fail
  refine (curs_any _ pb tb mb cap nm L S _ _ _ hx7).mono ?_
  rintro e w8 ⟨rfl, q8, hw8⟩
  have hx8 := hx7.drewN q8
  have hbw8 : Below w.heap.size w w8 := by rw [hw8]; exact below_drewN hbw7 _
  rw [← hw8] at hx8
  clear hw8 hx7 hst7 hbw7
  go_wp2_with fail
  refine (new4_any _ tb mb cap nm L S a M c hx8.row hx8.set HW.out hlb).mono ?_
  rintro e w9 ⟨rfl, hx9, hb9⟩
  have hbw9 := below_next hb9 hbw8
  have hpz9 := hbw8.size
  obtain ⟨pc, hpc⟩ : ∃ pc, pc = w8.heap.size := ⟨_, rfl⟩
  rw [← hpc] at hx9 hpz9 ⊢
  clear hx8 hb9 hpc
  go_wp2_with fail
  refine (advz_any _ pc tb mb cap nm L S a c M hx9 (by omega)).mono ?_
  rintro e wa ⟨rfl, hga, hxa⟩
  have hbwa : Below w.heap.size w wa := hbw9.grown hga hbw9.size (fun k hk => by injection hk with hk; omega)
  clear hga hbw9
  go_wp2_with fail
  refine (curs_any _ pc tb mb cap nm L S _ _ _ hxa).mono ?_
  rintro e wb ⟨rfl, qb, hwb⟩
  have hbwb : Below w.heap.size w wb := by rw [hwb]; exact below_drewN hbwa _
  clear hwb
  have hmm := HMO.out
  rw [← HSD.out] at hmm
  generalize PL.stop S (types L) M = sM at hmm hxa hsM ⊢
  by_cases hNM : N ≤ M
  · have hle := hmm hNM
    clear hmm
    go_wp2_with fail
    go_ret
    exact ⟨rfl, hbwb⟩
  · clear hmm
    go_wp2_with fail
    go_ret
    exact ⟨rfl, hbwb⟩
end fnAdvanceToNonElidedFindsNearestStop
end Go.Proofs.Ytnbpddcgpjjibaa
