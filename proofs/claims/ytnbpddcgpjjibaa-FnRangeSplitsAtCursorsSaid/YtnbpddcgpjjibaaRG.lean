/-
  The walk of FnRangeSplitsAtCursors: Range splits at the raw cursor into what was consumed and what is to come. Conditions: none beyond the statement's own.
-/
import Derived.Test.YtnbpddcgpjjibaaT5C
namespace Go.Proofs.Ytnbpddcgpjjibaa
open Go.RowKit
set_option linter.unusedSimpArgs false
set_option linter.unusedVariables false

namespace fnRangeSplitsAtCursors
theorem zz (A0 : Option Addr) (n0 c0 : Nat) (A1 : Option Addr) (n1 c1 : Nat) (k : Int) (w : World) (h0 : n0 ≤ maxLen) (h1 : n1 ≤ maxLen) :
    Calls Try.prog 35 #[.slice A0 n0 c0, .slice A1 n1 c1, .int .i64 k] w (BoolAny w) := by
  unfold maxLen at h0 h1
  go_enter Try.func35, Try.ntmps35
  go_wp2_with fail
  all_goals (go_ret; exact ⟨_, rfl, rfl⟩)

theorem held {w0 w' : World} {pb tb mb tg c nm : Nat} {L : List Tok} {S : Int → Bool} {raw next cur : Int} {z : List Int} (h : Lx w' pb tb mb c nm L S raw next cur) (hT : Blk w' tg 24 (tabA z)) (hb : Below w0.heap.size w0 w')
    {i x y : Nat} {t : Tok} (ht : Hid (t = L.getD i eofTok)) (hi : i < L.length) (hx : Hid (x = i * 6)) (hy : Hid (y = i * 6)) :
    Lx w' pb tb mb c nm L S raw next cur ∧ Blk w' tg 24 (tabA z) ∧ Below w0.heap.size w0 w' ∧ w'.cell? ⟨tb, x, none⟩ = some (.int .i64 t.ty) ∧ w'.cell? ⟨tb, x + 1, none⟩ = some (.string t.val) ∧ w'.cell? ⟨tb, x + 1 + 1, none⟩ = some (.string t.fn) ∧ w'.cell? ⟨tb, x + 1 + 1 + 1, none⟩ = some (.int .i64 t.off) ∧ w'.cell? ⟨tb, x + 1 + 1 + 1 + 1, none⟩ = some (.int .i64 t.line) ∧ w'.cell? ⟨tb, x + 1 + 1 + 1 + 1 + 1, none⟩ = some (.int .i64 t.col) ∧ w'.cell? ⟨tb, y, none⟩ = some (.int .i64 t.ty) ∧ w'.cell? ⟨tb, y + 1, none⟩ = some (.string t.val) ∧ w'.cell? ⟨tb, y + 1 + 1, none⟩ = some (.string t.fn) ∧ w'.cell? ⟨tb, y + 1 + 1 + 1, none⟩ = some (.int .i64 t.off) ∧ w'.cell? ⟨tb, y + 1 + 1 + 1 + 1, none⟩ = some (.int .i64 t.line) ∧ w'.cell? ⟨tb, y + 1 + 1 + 1 + 1 + 1, none⟩ = some (.int .i64 t.col) := by
  obtain ⟨t0, t1, t2, t3, t4, t5⟩ := h.tok hi
  rw [← ht.out] at t0 t1 t2 t3 t4 t5
  rw [hx.out, hy.out]
  exact ⟨h, hT, hb, t0, t1, t2, t3, t4, t5, t0, t1, t2, t3, t4, t5⟩

set_option maxHeartbeats 4000000 in
set_option maxRecDepth 100000 in
theorem walk (A0 : Option Addr) (n0 c0 : Nat) (z0 : List Int) (A1 : Option Addr) (n1 c1 : Nat) (z1 : List Int) (k : Int) (w : World)
    (ht : Ints .u8 w A0 n0 z0) (he : Ints .u8 w A1 n1 z1) (_ : (Lit.int .i64 k).wf = true) :
    Calls Try.prog 9 #[.slice A0 n0 c0, .slice A1 n1 c1, .int .i64 k] w fun e w' => e = .returned (.bool true) ∧ Below w.heap.size w w' := by
  have hm0 := ht.2.1
  have hm1 := he.2.1
  have HT := Lib.hid ht; clear ht
  have HE := Lib.hid he; clear he
  by_cases hsmall : n0 ≤ 65536 ∧ n1 ≤ 65536 ∧ 0 ≤ k ∧ k ≤ 65536
  case neg =>
    go_enter Try.func9, Try.ntmps9
    go_wp2_with fail
    refine (zz A0 n0 c0 A1 n1 c1 k _ hm0 hm1).mono ?_
    rintro e w1 ⟨b, rfl, rfl⟩
    unfold maxLen at hm0 hm1
    cases b
    · go_wp2_with fail
      go_ret
      exact ⟨rfl, Below.refl _ _⟩
    · go_wp2_with fail
      all_goals first | (exfalso; omega) | (go_ret; exact ⟨rfl, Below.refl _ _⟩)
  obtain ⟨hs0, hs1, hk0, hk1⟩ := hsmall
  obtain ⟨K, rfl⟩ : ∃ K : Nat, k = K := ⟨k.toNat, by omega⟩
  have hF := t4_first' z0 (u8_ne HT.out)
  rw [HT.out.1] at hF
  have HF := Lib.hid hF; clear hF
  have hLl := t4_length z0
  rw [HT.out.1] at hLl
  have HLL := Lib.hid hLl; clear hLl
  have hat : ∀ j, j ≤ n0 → (t4 z0).getD j eofTok = ⟨(z0 ++ [-1]).getD j (-1), ByteArray.empty, ByteArray.empty, (j : Int), 0, 0⟩ := fun j hj => t4_at z0 j (by rw [HT.out.1]; exact hj)
  have HA := Lib.hid hat; clear hat
  have hEL : n0 < (t4 z0).length := by rw [HLL.out]; omega
  have HI : Hid (∀ j, PL.Inv (inS z1) (types (t4 z0)) n0 j ((PL.fresh (inS z1) (types (t4 z0))).run (inS z1) (types (t4 z0)) j)) := fun j => PL.inv_run (S := inS z1) HF.out j
  go_enter Try.func9, Try.ntmps9
  go_wp2_with fail
  refine (zz A0 n0 c0 A1 n1 c1 K _ hm0 hm1).mono ?_
  rintro e w0 ⟨b, rfl, rfl⟩
  unfold maxLen at hm0 hm1
  cases b
  · go_wp2_with fail
    go_ret
    exact ⟨rfl, Below.refl _ _⟩
  go_wp2_with fail
  refine (tab_any A1 n1 c1 z1 _ HE.out hs1).mono ?_
  rintro e w1 ⟨rfl, hb1⟩
  have hz := zeroTab
  obtain ⟨Z, hZ⟩ : ∃ Z, Z = tabZ := ⟨_, rfl⟩
  rw [← hZ] at hz
  obtain ⟨tg, htg⟩ : ∃ tg, tg = w1.heap.size := ⟨_, rfl⟩
  have hsz := tabA_size z1
  have hZs : Z.size = (tabA z1).size := by rw [hZ, hsz]; simp [tabZ]
  have hnb := Blk.new w1 24 Z
  rw [← htg] at hnb
  have HTH : Hid ((w1.alloc (.cells Z 24)).there tg 0 (tabA z1).size) := hnb.there (by omega)
  have HTB : Hid (Blk ((w1.alloc (.cells Z 24)).setCells tg 0 (tabA z1).toList) tg 24 (tabA z1)) := hnb.setAll _ hZs
  have HIN : Hid ((Try.prog.info? 24).map (·.size) = some (tabA z1).size) := by rw [hsz]; exact tabInfo
  have HBW : Hid (Below w.heap.size w ((w1.alloc (.cells Z 24)).setCells tg 0 (tabA z1).toList)) := below_setCells (hb1.alloc hb1.size _) (by rw [htg]; exact hb1.size) _ _
  have HTG := Lib.hid htg; clear htg
  have htw : w.heap.size ≤ tg := by rw [HTG.out]; exact hb1.size
  clear hZ hZs hsz hnb hb1
  go_wp2_with (refine wpList_store_mid (by rfl) _ _ _ (by rfl) tg 0 (tabA z1) (by simp [HTG.out, Act.eval]) (by rfl) HTH.out HIN.out (tabA_one z1) ?_; generalize hW2 : World.setCells _ tg 0 (tabA z1).toList = w2)
  have hTb : Blk w2 tg 24 (tabA z1) := by rw [← hW2]; exact HTB.out
  have hbw : Below w.heap.size w w2 := by rw [← hW2]; exact HBW.out
  rw [← HTG.out]
  clear hW2 HTH HTB HBW HIN hz
  refine (build_any A0 n0 c0 z0 A1 n1 c1 z1 _ (HT.out.later hbw) (HE.out.later hbw) hs0 hs1).mono ?_
  rintro e w4 ⟨pb, tb, mb, cap, nm, rfl, hpb, htb, hmb, hcap, hcap2, hx, hb4⟩
  have hbw4 := below_next hb4 hbw
  have hpw : w.heap.size ≤ pb := Nat.le_trans hbw.size hpb
  have hTb4 := hTb.later hb4
  have htp : tg ≠ pb := by have := hTb.lt; omega
  clear hb4 hTb hbw
  go_wp2_with fail
  go_loopg [10] K (fun q i wr => ∃ j : Nat, q = K - j ∧ j ≤ K ∧ i = .int .i64 j ∧ Lx wr pb tb mb cap nm (t4 z0) (inS z1) ((PL.fresh (inS z1) (types (t4 z0))).run (inS z1) (types (t4 z0)) j).raw ((PL.fresh (inS z1) (types (t4 z0))).run (inS z1) (types (t4 z0)) j).next ((PL.fresh (inS z1) (types (t4 z0))).run (inS z1) (types (t4 z0)) j).cur ∧ Blk wr tg 24 (tabA z1) ∧ Below w.heap.size w wr)
  case atStart => exact ⟨0, rfl, Nat.zero_le _, rfl, hx, hTb4, hbw4⟩
  case round =>
    obtain ⟨j, hq, hj, rfl, hxj, hTj, hbj⟩ := hrel
    have KK := Lib.hid hq; clear hq
    clear hx hbw4 hTb4
    by_cases hlt : j < K
    · have hij := HI.out j
      have HIJ := Lib.hid hij; clear hij
      go_wp2_with fail
      refine (next_any _ pb tb mb cap nm (t4 z0) (inS z1) _ hxj n0 HF.out hEL HIJ.out.le (by have := HIJ.out.most; omega)).mono ?_
      rintro e w5 ⟨rfl, hg5, hx5⟩
      have hb5 : Below w.heap.size w w5 := hbj.grown hg5 hbj.size (fun q hq => by injection hq with hq; omega)
      have hT5 := hTj.grown hg5 (fun e => by injection e with e; exact htp e)
      clear hg5
      go_wp2_with fail
      go_roundg (K - (j + 1))
      case measure => rw [KK.out]; omega
      case rel => exact ⟨j + 1, rfl, by omega, by go_num, hx5, hT5, hb5⟩
    · obtain rfl : K = j := by omega
      have hI := HI.out K
      generalize (PL.fresh (inS z1) (types (t4 z0))).run (inS z1) (types (t4 z0)) K = s at hxj hI
      have HIK := Lib.hid hI; clear hI HI KK
      have hrn : s.raw ≤ n0 := HIK.out.raw
      have hnn : s.next ≤ n0 := HIK.out.le
      obtain ⟨d0, d1, d2, d3, d4⟩ := hxj.cells
      have hcb : s.cur ≤ 65536 := by have := HIK.out.most; omega
      go_wp2_with fail
      refine (rawCursor_any _ _ _ _).mono ?_
      rintro e w6 ⟨rfl, hb6⟩
      have hx6 := hxj.later hb6
      have hT6 := hTj.later hb6
      have hbw6 := below_next hb6 hbj
      clear hxj hTj hbj hb6 d0 d1 d2 d3 d4
      obtain ⟨d0, d1, d2, d3, d4⟩ := hx6.cells
      have hr0 : ¬ (s.raw : Int) < 0 := by omega
      have hr1 : ¬ (n0 : Int) < (s.raw : Int) := by omega
      go_wp2_with fail
      refine (rawCursor_any _ _ _ _).mono ?_
      rintro e w7 ⟨rfl, hb7⟩
      have hx7 := hx6.later hb7
      have hT7 := hT6.later hb7
      have hbw7 := below_next hb7 hbw6
      clear hx6 hT6 hbw6 hb7 d0 d1 d2 d3 d4
      go_wp2_with fail
      refine (range_any _ pb tb mb cap nm (t4 z0) (inS z1) _ _ _ 0 s.raw s.raw hx7 (by omega) (by rw [HLL.out]; omega) hcap (by rw [HLL.out]; omega) hcap2).mono ?_
      rintro e w8 ⟨X1, y1, rfl, rfl, hX1⟩
      have HX1 := Lib.hid hX1; clear hX1
      obtain ⟨d0, d1, d2, d3, d4⟩ := hx7.cells
      go_wp2_with fail
      refine (rawCursor_any _ _ _ _).mono ?_
      rintro e w8 ⟨rfl, hb8⟩
      have hx8 := hx7.later hb8
      have hT8 := hT7.later hb8
      have hbw8 := below_next hb8 hbw7
      clear hx7 hT7 hbw7 hb8 d0 d1 d2 d3 d4
      obtain ⟨N, hN⟩ : ∃ N, s.raw + N = n0 + 1 := ⟨n0 + 1 - s.raw, by omega⟩
      have HN := Lib.hid hN
      have hNp : 0 < N := by omega
      have hN3 : N ≤ n0 + 1 := by omega
      have hsum : ((s.raw : Int) + (N : Int) != (n0 : Int) + 1) = false := by simp; omega
      have hN0 : ((N : Int) == 0) = false := by simp; omega
      clear hN
      go_wp2_with fail
      rw [show ((n0 : Int) + 1) = ((n0 + 1 : Nat) : Int) by omega]
      refine (range_any _ pb tb mb cap nm (t4 z0) (inS z1) _ _ _ s.raw (n0 + 1) N hx8 HN.out (by rw [HLL.out]; omega) hcap (by rw [HLL.out]; omega) hcap2).mono ?_
      rw [show ((n0 + 1 : Nat) : Int) = ((n0 : Int) + 1) by omega]
      rintro e w9 ⟨X2, y2, rfl, rfl, hX2⟩
      obtain rfl := hX2 hNp
      clear hX2
      go_wp2_with fail
      clear hsum hN0
      go_loopg [14, 15] s.raw (fun q c i wx => ∃ j : Nat, q = s.raw - j ∧ j ≤ s.raw ∧ i = .int .i64 j ∧ c = .int .i64 (PL.cnt (inS z1) (types (t4 z0)) j : Nat) ∧ Lx wx pb tb mb cap nm (t4 z0) (inS z1) s.raw s.next s.cur ∧ Blk wx tg 24 (tabA z1) ∧ Below w.heap.size w wx)
      case atStart => exact ⟨0, rfl, Nat.zero_le _, rfl, rfl, hx8, hT8, hbw8⟩
      case round =>
        clear hx8 hT8 hbw8
        obtain ⟨j, hq, hj, rfl, rfl, hx9, hT9, hb9⟩ := hrel
        have KK := Lib.hid hq; clear hq
        have hcj := PL.cnt_le (S := inS z1) (T := types (t4 z0)) j
        by_cases hlt : j < s.raw
        · obtain rfl := HX1.out (by omega)
          obtain ⟨B, hB, hBz⟩ := u8_nat HT.out (show j < n0 by omega)
          obtain ⟨e0, e1, e2, e3, e4, e5⟩ := hx9.tok (i := j) (by omega)
          rw [HA.out j (by omega), app_lt z0 j (by rw [HT.out.1]; omega), hBz] at e0 e1 e2 e3 e4 e5
          have hvj := t4_vis (inS z1) z0 j (by rw [HT.out.1]; omega) (by rw [hBz]; omega)
          rw [hBz] at hvj
          have hcs : PL.cnt (inS z1) (types (t4 z0)) (j + 1) = PL.cnt (inS z1) (types (t4 z0)) j + (if inS z1 B then 0 else 1) := by
            rw [cnt_succ, hvj]; cases inS z1 B <;> rfl
          have HCS := Lib.hid hcs; clear hcs hvj hBz
          have hbe : ((B : Int) == -1) = false := by simp
          have hi0 : (0 : Int) ≤ (j : Int) := by omega
          have hi1 : (j : Int) < (s.raw : Int) := by omega
          cases hS : inS z1 B
          all_goals
            have HS := Lib.hid hS; clear hS
            go_wp2_with fail
            refine (visT_any _ tg z1 B _ _ _ _ _ _ hB hT9 HS).mono ?_
            rintro e wa ⟨rfl, hba⟩
            have hxa := hx9.later hba
            have hTa := hT9.later hba
            have hbwa := below_next hba hb9
            clear e0 e1 e2 e3 e4 e5 hba
            go_wp2_with fail
            go_roundg (s.raw - (j + 1))
            case measure => rw [KK.out]; omega
            case rel => exact ⟨j + 1, rfl, by omega, by go_num, by rw [HCS.out, HS.out]; go_num, hxa, hTa, hbwa⟩
        · have hje : j = s.raw := by omega
          have hcn : PL.cnt (inS z1) (types (t4 z0)) j = s.cur := by rw [hje]; exact HIK.out.cur
          rw [hcn]
          have HJE := Lib.hid hje; clear hje hcn hcj KK
          obtain ⟨d0, d1, d2, d3, d4⟩ := hx9.cells
          go_wp2_with fail
          refine (cursor_any _ _ _ _).mono ?_
          rintro e wa ⟨rfl, hba⟩
          have hxa := hx9.later hba
          have hTa := hT9.later hba
          have hbwa := below_next hba hb9
          clear hx9 hT9 hb9 hba d0 d1 d2 d3 d4
          obtain ⟨t, ht⟩ : ∃ t, t = (t4 z0).getD s.raw eofTok := ⟨_, rfl⟩
          have HTT := Lib.hid ht; clear ht
          have hrl : s.raw < (t4 z0).length := by omega
          have hi0 : (0 : Int) ≤ 0 := by omega
          have hi1 : (0 : Int) < (N : Int) := by omega
          go_wp2_with fail
          go_region_held3 (fun w' => Lx w' pb tb mb cap nm (t4 z0) (inS z1) s.raw s.next s.cur ∧ Blk w' tg 24 (tabA z1) ∧ Below w.heap.size w w' ∧ w'.cell? ⟨tb, s.raw * 6, none⟩ = some (.int .i64 t.ty) ∧ w'.cell? ⟨tb, s.raw * 6 + 1, none⟩ = some (.string t.val) ∧ w'.cell? ⟨tb, s.raw * 6 + 1 + 1, none⟩ = some (.string t.fn) ∧ w'.cell? ⟨tb, s.raw * 6 + 1 + 1 + 1, none⟩ = some (.int .i64 t.off) ∧ w'.cell? ⟨tb, s.raw * 6 + 1 + 1 + 1 + 1, none⟩ = some (.int .i64 t.line) ∧ w'.cell? ⟨tb, s.raw * 6 + 1 + 1 + 1 + 1 + 1, none⟩ = some (.int .i64 t.col) ∧ w'.cell? ⟨tb, s.raw * 6, none⟩ = some (.int .i64 t.ty) ∧ w'.cell? ⟨tb, s.raw * 6 + 1, none⟩ = some (.string t.val) ∧ w'.cell? ⟨tb, s.raw * 6 + 1 + 1, none⟩ = some (.string t.fn) ∧ w'.cell? ⟨tb, s.raw * 6 + 1 + 1 + 1, none⟩ = some (.int .i64 t.off) ∧ w'.cell? ⟨tb, s.raw * 6 + 1 + 1 + 1 + 1, none⟩ = some (.int .i64 t.line) ∧ w'.cell? ⟨tb, s.raw * 6 + 1 + 1 + 1 + 1 + 1, none⟩ = some (.int .i64 t.col))
            (first | assumption | exact held hxa.drew hTa.drew hbwa.drew HTT hrl rfl rfl | (go_split_ands; exact held (Lx.drewN (by assumption) _) (Blk.drewN (by assumption) _) (below_drewN (by assumption) _) HTT hrl rfl rfl))
            (first | (go_at_call 24; refine (rawPeek_any _ pb tb mb cap nm (t4 z0) (inS z1) _ _ s.raw (by go_split_ands; assumption) hrl).mono ?_; rintro e w' ⟨rfl, q, rfl⟩))
          obtain ⟨hxR, hTR, hbR, -⟩ := ‹Lx _ pb tb mb cap nm (t4 z0) (inS z1) s.raw s.next s.cur ∧ _›
          clear hxa hTa hbwa
          clear HTT
          go_wp2_with fail
          go_loopg [16] N (fun q i wx => ∃ m : Nat, q = N - m ∧ i = .int .i64 m ∧ s.raw + m ≤ s.next ∧ Lx wx pb tb mb cap nm (t4 z0) (inS z1) s.raw s.next s.cur ∧ Blk wx tg 24 (tabA z1) ∧ Below w.heap.size w wx)
          case atStart => exact ⟨0, rfl, rfl, HIK.out.raw_le_next, hxR, hTR, hbR⟩
          case round =>
            clear hxR hTR hbR
            obtain ⟨m, hq, rfl, hms, hxm, hTm, hbm⟩ := hrel
            have KK := Lib.hid hq; clear hq
            have hmN : m < N := by have := HN.out; omega
            obtain ⟨X, hX⟩ : ∃ X, X = s.raw * 6 + m * 6 := ⟨_, rfl⟩
            have hX6 : X = (s.raw + m) * 6 := by omega
            have HX6 := Lib.hid hX6; clear hX6
            have HX := Lib.hid hX; clear hX
            obtain ⟨e0, e1, e2, e3, e4, e5⟩ := hxm.tok (i := s.raw + m) (by omega)
            obtain ⟨t, ht⟩ : ∃ t, t = (t4 z0).getD (s.raw + m) eofTok := ⟨_, rfl⟩
            rw [← ht, Nat.add_mul] at e0 e1 e2 e3 e4 e5
            have HTT := Lib.hid ht; clear ht
            have hm0 : (0 : Int) ≤ (m : Int) := by omega
            have hm1 : (m : Int) < (N : Int) := by omega
            have hpn : s.raw + m ≤ n0 := by omega
            by_cases hpe : s.raw + m = s.next
            · have HPE := Lib.hid hpe; clear hpe
              have hnl : s.next < (t4 z0).length := by omega
              have HTN : Hid (t = (t4 z0).getD s.next eofTok) := by rw [← HPE.out]; exact HTT.out
              have HXN : Hid (s.raw * 6 + m * 6 = s.next * 6) := by have := HPE.out; show _ = _; omega
              clear HTT
              have HTT := HTN
              by_cases hE : s.next < n0
              · obtain ⟨B, hB, hBz⟩ := u8_nat HT.out hE
                have hty : t.ty = (B : Int) := by rw [HTT.out, HA.out s.next (by omega), app_lt z0 s.next (by rw [HT.out.1]; exact hE), hBz]
                have hvs : PL.vis (inS z1) (types (t4 z0)) s.next = true := PL.vis_of_stop (by rw [HIK.out.next]; exact (PL.stop_spec _).2) (HF.out.none _ hE)
                rw [t4_vis (inS z1) z0 s.next (by rw [HT.out.1]; exact hE) (by rw [hBz]; omega), hBz] at hvs
                have hSB : inS z1 B = false := by simpa using hvs
                have hte : (t.ty == -1) = false := by rw [hty]; simp
                have HTY := Lib.hid hty; clear hty
                have HSB := Lib.hid hSB; clear hSB hvs hBz
                go_wp2_with fail
                refine (visT_tok _ tg z1 B _ t HTY hB hTm HSB).mono ?_
                rintro e wb ⟨rfl, hbb⟩
                have hxb := hxm.later hbb
                have hTb := hTm.later hbb
                have hbwb := below_next hbb hbm
                clear e0 e1 e2 e3 e4 e5 hbb hxm hTm hbm
                go_wp2_with fail
                go_region_held3 (fun w' => Lx w' pb tb mb cap nm (t4 z0) (inS z1) s.raw s.next s.cur ∧ Blk w' tg 24 (tabA z1) ∧ Below w.heap.size w w' ∧ w'.cell? ⟨tb, s.raw * 6 + m * 6, none⟩ = some (.int .i64 t.ty) ∧ w'.cell? ⟨tb, s.raw * 6 + m * 6 + 1, none⟩ = some (.string t.val) ∧ w'.cell? ⟨tb, s.raw * 6 + m * 6 + 1 + 1, none⟩ = some (.string t.fn) ∧ w'.cell? ⟨tb, s.raw * 6 + m * 6 + 1 + 1 + 1, none⟩ = some (.int .i64 t.off) ∧ w'.cell? ⟨tb, s.raw * 6 + m * 6 + 1 + 1 + 1 + 1, none⟩ = some (.int .i64 t.line) ∧ w'.cell? ⟨tb, s.raw * 6 + m * 6 + 1 + 1 + 1 + 1 + 1, none⟩ = some (.int .i64 t.col) ∧ w'.cell? ⟨tb, s.next * 6, none⟩ = some (.int .i64 t.ty) ∧ w'.cell? ⟨tb, s.next * 6 + 1, none⟩ = some (.string t.val) ∧ w'.cell? ⟨tb, s.next * 6 + 1 + 1, none⟩ = some (.string t.fn) ∧ w'.cell? ⟨tb, s.next * 6 + 1 + 1 + 1, none⟩ = some (.int .i64 t.off) ∧ w'.cell? ⟨tb, s.next * 6 + 1 + 1 + 1 + 1, none⟩ = some (.int .i64 t.line) ∧ w'.cell? ⟨tb, s.next * 6 + 1 + 1 + 1 + 1 + 1, none⟩ = some (.int .i64 t.col))
                  (first | assumption | exact held hxb.drew hTb.drew hbwb.drew HTT hnl HXN rfl | (go_split_ands; exact held (Lx.drewN (by assumption) _) (Blk.drewN (by assumption) _) (below_drewN (by assumption) _) HTT hnl HXN rfl))
                  (first | (go_at_call 26; refine (peek_any _ pb tb mb cap nm (t4 z0) (inS z1) _ _ s.next (by go_split_ands; assumption) hnl).mono ?_; rintro e w' ⟨rfl, q, rfl⟩))
                obtain ⟨hxR, hTR, hbR, -⟩ := ‹Lx _ pb tb mb cap nm (t4 z0) (inS z1) s.raw s.next s.cur ∧ _›
                go_wp2_with fail
                go_ret
                exact ⟨rfl, hbR⟩
              · have hte : (t.ty == -1) = true := by rw [HTT.out, HA.out s.next (by omega), app_eq z0 s.next (by rw [HT.out.1]; omega)]; rfl
                have hxb := hxm
                have hTb := hTm
                have hbwb := hbm
                go_wp2_with fail
                clear e0 e1 e2 e3 e4 e5 hxm hTm hbm
                go_region_held3 (fun w' => Lx w' pb tb mb cap nm (t4 z0) (inS z1) s.raw s.next s.cur ∧ Blk w' tg 24 (tabA z1) ∧ Below w.heap.size w w' ∧ w'.cell? ⟨tb, s.raw * 6 + m * 6, none⟩ = some (.int .i64 t.ty) ∧ w'.cell? ⟨tb, s.raw * 6 + m * 6 + 1, none⟩ = some (.string t.val) ∧ w'.cell? ⟨tb, s.raw * 6 + m * 6 + 1 + 1, none⟩ = some (.string t.fn) ∧ w'.cell? ⟨tb, s.raw * 6 + m * 6 + 1 + 1 + 1, none⟩ = some (.int .i64 t.off) ∧ w'.cell? ⟨tb, s.raw * 6 + m * 6 + 1 + 1 + 1 + 1, none⟩ = some (.int .i64 t.line) ∧ w'.cell? ⟨tb, s.raw * 6 + m * 6 + 1 + 1 + 1 + 1 + 1, none⟩ = some (.int .i64 t.col) ∧ w'.cell? ⟨tb, s.next * 6, none⟩ = some (.int .i64 t.ty) ∧ w'.cell? ⟨tb, s.next * 6 + 1, none⟩ = some (.string t.val) ∧ w'.cell? ⟨tb, s.next * 6 + 1 + 1, none⟩ = some (.string t.fn) ∧ w'.cell? ⟨tb, s.next * 6 + 1 + 1 + 1, none⟩ = some (.int .i64 t.off) ∧ w'.cell? ⟨tb, s.next * 6 + 1 + 1 + 1 + 1, none⟩ = some (.int .i64 t.line) ∧ w'.cell? ⟨tb, s.next * 6 + 1 + 1 + 1 + 1 + 1, none⟩ = some (.int .i64 t.col))
                  (first | assumption | exact held hxb.drew hTb.drew hbwb.drew HTT hnl HXN rfl | (go_split_ands; exact held (Lx.drewN (by assumption) _) (Blk.drewN (by assumption) _) (below_drewN (by assumption) _) HTT hnl HXN rfl))
                  (first | (go_at_call 26; refine (peek_any _ pb tb mb cap nm (t4 z0) (inS z1) _ _ s.next (by go_split_ands; assumption) hnl).mono ?_; rintro e w' ⟨rfl, q, rfl⟩))
                obtain ⟨hxR, hTR, hbR, -⟩ := ‹Lx _ pb tb mb cap nm (t4 z0) (inS z1) s.raw s.next s.cur ∧ _›
                go_wp2_with fail
                go_ret
                exact ⟨rfl, hbR⟩
            · have hE : s.raw + m < n0 := by omega
              obtain ⟨B, hB, hBz⟩ := u8_nat HT.out hE
              have hty : t.ty = (B : Int) := by rw [HTT.out, HA.out (s.raw + m) (by omega), app_lt z0 (s.raw + m) (by rw [HT.out.1]; exact hE), hBz]
              have hvs : PL.vis (inS z1) (types (t4 z0)) (s.raw + m) = false := by
                have hst := (PL.stop_spec (S := inS z1) (T := types (t4 z0)) s.raw).1 (s.raw + m) (by omega) (by rw [← HIK.out.next]; omega)
                exact PL.vis_false_of_not_stop hst
              rw [t4_vis (inS z1) z0 (s.raw + m) (by rw [HT.out.1]; exact hE) (by rw [hBz]; omega), hBz] at hvs
              have hSB : inS z1 B = true := by simpa using hvs
              have hte : (t.ty == -1) = false := by rw [hty]; simp
              have HTY := Lib.hid hty; clear hty
              have HSB := Lib.hid hSB; clear hSB hvs hBz
              go_wp2_with fail
              refine (visT_tok _ tg z1 B _ t HTY hB hTm HSB).mono ?_
              rintro e wb ⟨rfl, hbb⟩
              have hxb := hxm.later hbb
              have hTb := hTm.later hbb
              have hbwb := below_next hbb hbm
              clear e0 e1 e2 e3 e4 e5 hbb hxm hTm hbm
              go_wp2_with fail
              go_roundg (N - (m + 1))
              case measure => rw [KK.out]; omega
              case rel => exact ⟨m + 1, rfl, by go_num, by omega, hxb, hTb, hbwb⟩
end fnRangeSplitsAtCursors
end Go.Proofs.Ytnbpddcgpjjibaa
