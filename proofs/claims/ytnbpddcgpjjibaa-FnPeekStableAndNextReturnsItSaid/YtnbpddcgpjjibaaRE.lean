/-
  The walk of FnPeekStableAndNextReturnsIt: Peek moves nothing, Next returns what Peek showed, and LoadCheckpoint restores it. Conditions: none beyond the statement's own.
-/
import Derived.LaidEqlPtr
import Derived.Lib.Builder
import Derived.Test.YtnbpddcgpjjibaaT5B
namespace Go.Proofs.Ytnbpddcgpjjibaa
open Go.RowKit
set_option linter.unusedSimpArgs false
set_option linter.unusedVariables false

namespace fnPeekStableAndNextReturnsIt
theorem zz (A0 : Option Addr) (n0 c0 : Nat) (A1 : Option Addr) (n1 c1 : Nat) (k : Int) (w : World) (h0 : n0 ≤ maxLen) (h1 : n1 ≤ maxLen) :
    Calls Try.prog 31 #[.slice A0 n0 c0, .slice A1 n1 c1, .int .i64 k] w (BoolAny w) := by
  unfold maxLen at h0 h1
  go_enter Try.func31, Try.ntmps31
  go_wp2_with fail
  all_goals (go_ret; exact ⟨_, rfl, rfl⟩)

set_option maxHeartbeats 4000000 in
set_option maxRecDepth 100000 in
theorem walk (A0 : Option Addr) (n0 c0 : Nat) (z0 : List Int) (A1 : Option Addr) (n1 c1 : Nat) (z1 : List Int) (k : Int) (w : World)
    (ht : Ints .u8 w A0 n0 z0) (he : Ints .u8 w A1 n1 z1) (_ : (Lit.int .i64 k).wf = true) :
    Calls Try.prog 7 #[.slice A0 n0 c0, .slice A1 n1 c1, .int .i64 k] w fun e w' => e = .returned (.bool true) ∧ Below w.heap.size w w' := by
  have hm0 := ht.2.1
  have hm1 := he.2.1
  have HT := Lib.hid ht; clear ht
  have HE := Lib.hid he; clear he
  by_cases hsmall : n0 ≤ 65536 ∧ n1 ≤ 65536 ∧ 0 ≤ k ∧ k ≤ 65536
  case neg =>
    go_enter Try.func7, Try.ntmps7
    go_wp2_with fail
    refine (zz A0 n0 c0 A1 n1 c1 k _ hm0 hm1).mono ?_
    rintro e w1 ⟨b, rfl, rfl⟩
    unfold maxLen at hm0 hm1
    cases b
    · go_wp2_with fail
      go_ret
      exact ⟨rfl, Below.refl _ _⟩
    · go_wp2_with fail
      all_goals first | (exfalso; omega) | (go_ret; exact ⟨rfl, Below.refl _ _⟩)
  obtain ⟨hs0, hs1, hk0, hk1⟩ := hsmall
  obtain ⟨K, rfl⟩ : ∃ K : Nat, k = K := ⟨k.toNat, by omega⟩
  have hF := t4_first' z0 (u8_ne HT.out)
  rw [HT.out.1] at hF
  have HF := Lib.hid hF; clear hF
  have hLl := t4_length z0
  rw [HT.out.1] at hLl
  have HLL := Lib.hid hLl; clear hLl
  have hat : ∀ j, j ≤ n0 → (t4 z0).getD j eofTok = ⟨(z0 ++ [-1]).getD j (-1), ByteArray.empty, ByteArray.empty, (j : Int), 0, 0⟩ := fun j hj => t4_at z0 j (by rw [HT.out.1]; exact hj)
  have HA := Lib.hid hat; clear hat
  have hEL : n0 < (t4 z0).length := by rw [HLL.out]; omega
  have HI : Hid (∀ j, PL.Inv (inS z1) (types (t4 z0)) n0 j ((PL.fresh (inS z1) (types (t4 z0))).run (inS z1) (types (t4 z0)) j)) := fun j => PL.inv_run (S := inS z1) HF.out j
  go_enter Try.func7, Try.ntmps7
  go_wp2_with fail
  refine (zz A0 n0 c0 A1 n1 c1 K _ hm0 hm1).mono ?_
  rintro e w0 ⟨b, rfl, rfl⟩
  unfold maxLen at hm0 hm1
  cases b
  · go_wp2_with fail
    go_ret
    exact ⟨rfl, Below.refl _ _⟩
  have hbw := Below.refl w.heap.size w
  go_wp2_with fail
  refine (build_any A0 n0 c0 z0 A1 n1 c1 z1 _ (HT.out.later hbw) (HE.out.later hbw) hs0 hs1).mono ?_
  rintro e w4 ⟨pb, tb, mb, cap, nm, rfl, hpb, htb, hmb, hcap, hx, hb4⟩
  have hbw4 := below_next hb4 hbw
  have hpw : w.heap.size ≤ pb := Nat.le_trans hbw.size hpb
  clear hb4
  go_wp2_with fail
  go_loopg [8] K (fun q i wr => ∃ j : Nat, q = K - j ∧ j ≤ K ∧ i = .int .i64 j ∧ Lx wr pb tb mb cap nm (t4 z0) (inS z1) ((PL.fresh (inS z1) (types (t4 z0))).run (inS z1) (types (t4 z0)) j).raw ((PL.fresh (inS z1) (types (t4 z0))).run (inS z1) (types (t4 z0)) j).next ((PL.fresh (inS z1) (types (t4 z0))).run (inS z1) (types (t4 z0)) j).cur ∧ Below w.heap.size w wr)
  case atStart => exact ⟨0, rfl, Nat.zero_le _, rfl, hx, hbw4⟩
  case round =>
    obtain ⟨j, hq, hj, rfl, hxj, hbj⟩ := hrel
    have KK := Lib.hid hq; clear hq
    clear hx hbw4
    by_cases hlt : j < K
    · have hij := HI.out j
      have HIJ := Lib.hid hij; clear hij
      go_wp2_with fail
      refine (next_any _ pb tb mb cap nm (t4 z0) (inS z1) _ hxj n0 HF.out hEL HIJ.out.le (by have := HIJ.out.most; omega)).mono ?_
      rintro e w5 ⟨rfl, hg5, hx5⟩
      have hb5 : Below w.heap.size w w5 := hbj.grown hg5 hbj.size (fun q hq => by injection hq with hq; omega)
      clear hg5
      go_wp2_with fail
      go_roundg (K - (j + 1))
      case measure => rw [KK.out]; omega
      case rel => exact ⟨j + 1, rfl, by omega, by go_num, hx5, hb5⟩
    · obtain rfl : K = j := by omega
      have hI := HI.out K
      generalize (PL.fresh (inS z1) (types (t4 z0))).run (inS z1) (types (t4 z0)) K = s at hxj hI
      have HIK := Lib.hid hI; clear hI HI KK
      have hrn : s.raw ≤ n0 := HIK.out.raw
      have hnn : s.next ≤ n0 := HIK.out.le
      obtain ⟨j57, hj57⟩ : ∃ j, Try.prog.info? 47 = some j := by obtain ⟨i0, hi, _⟩ := info_parts tokInfo; exact ⟨i0, hi⟩
      have hnq := fun W => Lib.run_neq_ptr_same (P := Try.prog) W (tp := 30) ⟨tb, s.next * 6, none⟩ Try.underlying30 hj57
      have heq := fun W => run_eql_ptr_same (P := Try.prog) W (tp := 30) ⟨tb, s.next * 6, none⟩ Try.underlying30 hj57
      have hcb : s.cur ≤ 65536 := by have := HIK.out.most; omega
      go_wp2_with fail
      refine (make_any _ pb tb mb cap nm (t4 z0) (inS z1) _ _ _ hxj).mono ?_
      rintro e w6 ⟨rfl, hb6⟩
      have hx6 := (hxj.later hb6).alloc (.cells #[.int .i64 s.raw, .int .i64 s.next, .int .i64 s.cur] 37)
      have hbw6 : Below w.heap.size w (w6.alloc (.cells #[.int .i64 s.raw, .int .i64 s.next, .int .i64 s.cur] 37)) := (below_next hb6 hbj).alloc (below_next hb6 hbj).size _
      have hcp6 := Blk.new w6 37 #[.int .i64 s.raw, .int .i64 s.next, .int .i64 s.cur]
      have hcw : w.heap.size ≤ w6.heap.size := (below_next hb6 hbj).size
      have hpc : pb < w6.heap.size := (hxj.later hb6).lt
      clear hxj hbj hb6
      go_wp2_with fail
      refine (peek_any _ pb tb mb cap nm (t4 z0) (inS z1) _ _ s.next hx6 (by omega)).mono ?_
      rintro e w7 ⟨rfl, q7, hw7⟩
      have hx7 := hx6.drewN q7
      have hcp7 := hcp6.drewN q7
      have hbw7 := below_drewN hbw6 q7
      rw [← hw7] at hx7 hcp7 hbw7
      obtain ⟨cb, hcbd⟩ : ∃ cb, cb = w6.heap.size := ⟨_, rfl⟩
      rw [← hcbd] at hcp7 hcw hpc ⊢
      clear hw7 hx6 hcp6 hbw6 hcbd
      go_wp2_with fail
      refine (peek_any _ pb tb mb cap nm (t4 z0) (inS z1) _ _ s.next hx7 (by omega)).mono ?_
      rintro e w8 ⟨rfl, q8, hw8⟩
      have hx8 := hx7.drewN q8
      have hcp8 := hcp7.drewN q8
      have hbw8 := below_drewN hbw7 q8
      rw [← hw8] at hx8 hcp8 hbw8
      clear hw8 hx7 hcp7 hbw7
      go_wp2_with fail
      go_region_held3 (fun w' => Lx w' pb tb mb cap nm (t4 z0) (inS z1) s.raw s.next s.cur ∧ Blk w' cb 37 #[.int .i64 s.raw, .int .i64 s.next, .int .i64 s.cur] ∧ Below w.heap.size w w' ∧ w'.cell? ⟨cb, 0, none⟩ = some (.int .i64 s.raw) ∧ w'.cell? ⟨cb, 1, none⟩ = some (.int .i64 s.next) ∧ w'.cell? ⟨cb, 2, none⟩ = some (.int .i64 s.cur))
        (first | assumption | exact heldCp hx8.drew hcp8.drew hbw8.drew | (go_split_ands; exact heldCp (Lx.later (by assumption) hbl) (Blk.later (by assumption) hbl) (below_next hbl (by assumption))))
        (first | (go_at_call 23; refine (make_any _ pb tb mb cap nm (t4 z0) (inS z1) s.raw s.next s.cur (by go_split_ands; assumption)).mono ?_; rintro e w' ⟨rfl, hbl⟩))
      obtain ⟨hx9, hcp9, hbw9, -⟩ := ‹Lx _ pb tb mb cap nm (t4 z0) (inS z1) s.raw s.next s.cur ∧ _›
      clear hx8 hcp8 hbw8
      go_wp2_with fail
      refine (next_any _ pb tb mb cap nm (t4 z0) (inS z1) _ hx9 n0 HF.out hEL hnn (by omega)).mono ?_
      rintro e wa ⟨rfl, hga, hxa⟩
      have hbwa : Below w.heap.size w wa := hbw9.grown hga hbw9.size (fun q hq => by injection hq with hq; omega)
      have hcpa := hcp9.grown hga (fun e => by injection e with e; omega)
      clear hga hx9 hcp9 hbw9
      have e0 := hcpa.cell 0
      have e1 := hcpa.cell 1
      have e2 := hcpa.cell 2
      simp at e0 e1 e2
      go_wp2_with fail
      refine (load_any _ pb tb mb cap nm (t4 z0) (inS z1) _ _ _ s.raw s.next s.cur hxa).mono ?_
      rintro e wb ⟨rfl, hgb, hxb⟩
      have hbwb : Below w.heap.size w wb := hbwa.grown hgb hbwa.size (fun q hq => by injection hq with hq; omega)
      have hcpb := hcpa.grown hgb (fun e => by injection e with e; omega)
      clear hgb hxa hcpa hbwa e0 e1 e2
      go_wp2_with fail
      go_region_held3 (fun w' => Lx w' pb tb mb cap nm (t4 z0) (inS z1) s.raw s.next s.cur ∧ Blk w' cb 37 #[.int .i64 s.raw, .int .i64 s.next, .int .i64 s.cur] ∧ Below w.heap.size w w' ∧ w'.cell? ⟨cb, 0, none⟩ = some (.int .i64 s.raw) ∧ w'.cell? ⟨cb, 1, none⟩ = some (.int .i64 s.next) ∧ w'.cell? ⟨cb, 2, none⟩ = some (.int .i64 s.cur))
        (first | assumption | exact heldCp hxb.drew hcpb.drew hbwb.drew | (go_split_ands; exact heldCp (Lx.later (by assumption) hbl) (Blk.later (by assumption) hbl) (below_next hbl (by assumption))))
        (first | (go_at_call 23; refine (make_any _ pb tb mb cap nm (t4 z0) (inS z1) s.raw s.next s.cur (by go_split_ands; assumption)).mono ?_; rintro e w' ⟨rfl, hbl⟩))
      obtain ⟨hxc, hcpc, hbwc, -⟩ := ‹Lx _ pb tb mb cap nm (t4 z0) (inS z1) s.raw s.next s.cur ∧ _›
      clear hxb hcpb hbwb
      go_wp2_with fail
      refine (peek_any _ pb tb mb cap nm (t4 z0) (inS z1) _ _ s.next hxc (by omega)).mono ?_
      rintro e wd ⟨rfl, qd, hwd⟩
      have hbwd := below_drewN hbwc qd
      rw [← hwd] at hbwd
      clear hwd
      go_wp2_with fail
      go_ret
      exact ⟨rfl, hbwd⟩
end fnPeekStableAndNextReturnsIt
end Go.Proofs.Ytnbpddcgpjjibaa
