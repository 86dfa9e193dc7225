/-
  The walk of FnMakeCheckpointSteps: each Next hands out the token that Peek showed; at EOF the checkpoint stays, else the cursors grow. Conditions: none beyond the statement's own.
-/
import Derived.Test.YtomfonilbenhbaaN9A
import Derived.Test.YtomfonilbenhbaaN9C
namespace Go.Proofs.Ytomfonilbenhbaa
open Go.RowKit
set_option linter.unusedSimpArgs false

namespace fnMakeCheckpointSteps
theorem heldS {w0 w' : World} {pb tb mb b0 b1 c nm : Nat} {L : List Tok} {S : Int → Bool} {raw next cur r n q r1 n1 q1 : Int} (h : Lx w' pb tb mb c nm L S raw next cur) (hc : Blk w' b0 49 #[.int .i64 r, .int .i64 n, .int .i64 q]) (hd : Blk w' b1 49 #[.int .i64 r1, .int .i64 n1, .int .i64 q1]) (hb : Below w0.heap.size w0 w') :
    Lx w' pb tb mb c nm L S raw next cur ∧ Blk w' b0 49 #[.int .i64 r, .int .i64 n, .int .i64 q] ∧ Blk w' b1 49 #[.int .i64 r1, .int .i64 n1, .int .i64 q1] ∧ Below w0.heap.size w0 w' ∧ w'.cell? ⟨b0, 0, none⟩ = some (.int .i64 r) ∧ w'.cell? ⟨b0, 1, none⟩ = some (.int .i64 n) ∧ w'.cell? ⟨b0, 2, none⟩ = some (.int .i64 q) ∧ w'.cell? ⟨b1, 0, none⟩ = some (.int .i64 r1) ∧ w'.cell? ⟨b1, 1, none⟩ = some (.int .i64 n1) ∧ w'.cell? ⟨b1, 2, none⟩ = some (.int .i64 q1) :=
  ⟨h, hc, hd, hb, hc.cell 0, hc.cell 1, hc.cell 2, hd.cell 0, hd.cell 1, hd.cell 2⟩

set_option maxHeartbeats 4000000 in
set_option maxRecDepth 100000 in
theorem walk (A0 : Option Addr) (n0 c0 : Nat) (z0 : List Int) (A1 : Option Addr) (n1 c1 : Nat) (z1 : List ByteArray) (A2 : Option Addr) (n2 c2 : Nat) (z2 : List Int) (k : Int) (w : World)
    (ht : Ints .i64 w A0 n0 z0) (hv : Strs w A1 n1 z1) (he : Ints .i64 w A2 n2 z2) (_ : (Lit.int .i64 k).wf = true) :
    Calls Try.prog 11 #[.slice A0 n0 c0, .slice A1 n1 c1, .slice A2 n2 c2, .int .i64 k] w fun e w' => e = .returned (.bool true) ∧ Below w.heap.size w w' := by
  have hm0 := ht.2.1
  have hm1 := hv.2.1
  have hm2 := he.2.1
  have HT := Lib.hid ht; clear ht
  have HV := Lib.hid hv; clear hv
  have HE := Lib.hid he; clear he
  by_cases hsmall : n0 ≤ 65536 ∧ n1 ≤ 65536 ∧ n2 ≤ 65536 ∧ 0 ≤ k ∧ k ≤ 65536
  case neg =>
    go_enter Try.func11, Try.ntmps11
    go_wp2_with fail
    refine (zzMakeCheckpointSteps A0 n0 c0 A1 n1 c1 z1 A2 n2 c2 k _ HV.out hm0 hm2).mono ?_
    rintro e w1 ⟨b, rfl, rfl⟩
    unfold maxLen at hm0 hm1 hm2
    cases b
    · go_wp2_with fail
      go_ret
      exact ⟨rfl, Below.refl _ _⟩
    · by_cases hs3 : n0 ≤ 65536 ∧ n1 ≤ 65536 ∧ n2 ≤ 65536
      · obtain ⟨hs0, hs1, hs2⟩ := hs3
        go_wp2_with fail
        refine (bytesOK_any A0 n0 c0 A1 n1 c1 z1 A2 n2 c2 _ HV.out hs0 hs1 hs2).mono ?_
        rintro e w1 ⟨b, rfl, rfl⟩
        cases b
        · go_wp2_with fail
          go_ret
          exact ⟨rfl, Below.refl _ _⟩
        · go_wp2_with fail
          all_goals first | (exfalso; omega) | (go_ret; exact ⟨rfl, Below.refl _ _⟩)
      · go_wp2_with fail
        all_goals first | (exfalso; omega) | (go_ret; exact ⟨rfl, Below.refl _ _⟩)
  case pos =>
    obtain ⟨hs0, hs1, hs2, hk0, hk1⟩ := hsmall
    have hF : PL.First (types (b6Toks z0 z1)) ((b6Toks z0 z1).length - 1) := b6Go_first z1 z0 0
    have hw := b6Go_wf z1 z0 0 HT.out.2.2.1
    have hlen : 0 < (b6Toks z0 z1).length ∧ (b6Toks z0 z1).length ≤ z0.length + 1 := b6Go_length z1 z0 0
    rw [HT.out.1] at hlen
    obtain ⟨hle0, hle1⟩ := hlen
    have HW : Hid (∀ t ∈ b6Toks z0 z1, (Lit.int .i64 t.ty).wf = true) := hw; clear hw
    have htoks := fun W hb => toks_any A0 n0 c0 z0 A1 n1 c1 z1 W (HT.out.later hb) (HV.out.later hb) hs0 hs1
    have helide := fun W hb => elide_any A2 n2 c2 z2 W (HE.out.later hb) hs2
    have hfresh := fun W hb => fresh_any A0 n0 c0 z0 A1 n1 c1 z1 A2 n2 c2 z2 (0 : Int) W (HT.out.later hb) (HV.out.later hb) (HE.out.later hb) hs0 hs1 hs2 (by omega) (by omega)
    generalize b6Toks z0 z1 = L at *
    generalize inS z2 = S at *
    have hI := PL.inv_run (S := S) hF ((0 : Int)).toNat
    clear hI
    have hI : True := trivial
    have HF := Lib.hid hF; clear hF
    have HI := Lib.hid hI; clear hI
    have HTK := Lib.hid htoks; clear htoks
    have HEL := Lib.hid helide; clear helide
    have HFR := Lib.hid hfresh; clear hfresh
    go_enter Try.func11, Try.ntmps11
    go_wp2_with fail
    refine (zzMakeCheckpointSteps A0 n0 c0 A1 n1 c1 z1 A2 n2 c2 k _ HV.out hm0 hm2).mono ?_
    rintro e w1 ⟨b, rfl, rfl⟩
    unfold maxLen at hm0 hm1 hm2
    cases b
    · go_wp2_with fail
      go_ret
      exact ⟨rfl, Below.refl _ _⟩
    go_wp2_with fail
    refine (bytesOK_any A0 n0 c0 A1 n1 c1 z1 A2 n2 c2 _ HV.out hs0 hs1 hs2).mono ?_
    rintro e w1 ⟨b, rfl, rfl⟩
    cases b
    · go_wp2_with fail
      go_ret
      exact ⟨rfl, Below.refl _ _⟩
    go_wp2_with fail
    refine (HTK.out _ (Below.refl _ _)).mono ?_
    rintro e w1 ⟨rb, cap, rfl, hrb, hrow, hb1⟩
    go_wp2_with fail
    refine (HFR.out _ hb1).mono ?_
    rintro e w3 ⟨pb, tb, mb, c, nm, rfl, hpb, htb, hmb, hx, hb3⟩
    have hb3' := below_next hb3 hb1
    have hpb' : w.heap.size ≤ pb := Nat.le_trans hb1.size hpb
    clear hrow hb3 hb1
    go_wp2_with fail
    go_loopg [8, 11, 12, 13, 14, 15] k.toNat (fun q r i _ _ _ _ wr => ∃ j : Nat, q = k.toNat - j ∧ j ≤ k.toNat ∧ r = .bool false ∧ i = .int .i64 j ∧ Lx wr pb tb mb c nm L S ((PL.fresh S (types L)).run S (types L) j).raw ((PL.fresh S (types L)).run S (types L) j).next ((PL.fresh S (types L)).run S (types L) j).cur ∧ Below w.heap.size w wr)
    case atStart => exact ⟨0, rfl, Nat.zero_le _, rfl, rfl, hx, hb3'⟩
    case round =>
      obtain ⟨j, hq, hj, rfl, rfl, hxj, hbj⟩ := hrel
      have KK := Lib.hid hq; clear hq
      by_cases hlt : j < k.toNat
      case neg =>
        have hjk : ¬ (j : Int) < k := by omega
        go_wp2_with fail
        go_ret
        exact ⟨rfl, hbj⟩
      case pos =>
        have hjk : (j : Int) < k := by omega
        have hI := PL.inv_run (S := S) HF.out j
        have hrel2 : (PL.fresh S (types L)).run S (types L) (j + 1) = ((PL.fresh S (types L)).run S (types L) j).step S (types L) := rfl
        generalize (PL.fresh S (types L)).run S (types L) j = s at *
        have HR2 := Lib.hid hrel2; clear hrel2
        have HIj := Lib.hid hI; clear hI
        have hnl : s.next < L.length := by have := HIj.out.le; omega
        have hcb : s.cur ≤ 65536 := by have := HIj.out.most; omega
        have hrn : s.raw ≤ s.next := HIj.out.raw_le_next
        obtain ⟨t, ht⟩ : ∃ t, t = L.getD s.next eofTok := ⟨_, rfl⟩
        have HTT := Lib.hid ht; clear ht
        go_wp2_with fail
        refine (make_any _ pb tb mb c nm L S _ _ _ hxj).mono ?_
        rintro e wA ⟨rfl, hbA⟩
        have hx1 := hxj.later hbA
        have bl1 := below_next hbA hbj
        clear hxj hbj hbA
        go_wp2_with fail
        have hx1a := hx1.alloc (.cells #[.int .i64 s.raw, .int .i64 s.next, .int .i64 s.cur] 49)
        have bl1a := bl1.alloc bl1.size (.cells #[.int .i64 s.raw, .int .i64 s.next, .int .i64 s.cur] 49)
        have kb0 := Blk.new wA 49 #[.int .i64 s.raw, .int .i64 s.next, .int .i64 s.cur]
        obtain ⟨b0, eb0⟩ : ∃ b, b = wA.heap.size := ⟨_, rfl⟩
        obtain ⟨wB, ewB⟩ : ∃ W, W = wA.alloc (.cells #[.int .i64 s.raw, .int .i64 s.next, .int .i64 s.cur] 49) := ⟨_, rfl⟩
        rw [← eb0] at kb0 ⊢
        rw [← ewB] at hx1a bl1a kb0 ⊢
        clear hx1 bl1 eb0 ewB
        refine (peek_any _ pb tb mb c nm L S _ _ s.next hx1a hnl).mono ?_
        rintro e wC ⟨rfl, q, hwC⟩
        have hx2 : Lx wC pb tb mb c nm L S s.raw s.next s.cur := by rw [hwC]; exact hx1a.drewN q
        have ka2 : Blk wC b0 49 #[.int .i64 s.raw, .int .i64 s.next, .int .i64 s.cur] := by rw [hwC]; exact kb0.drewN q
        have bl2 : Below w.heap.size w wC := by rw [hwC]; exact below_drewN bl1a q
        clear hx1a kb0 bl1a hwC
        obtain ⟨-, -, p0, p1, p2, p3, p4, t0, t1, t2, t3, t4, t5, -⟩ := hx2.held (World.grownBy.refl _ _) HTT hnl
        go_wp2_with fail
        clear p0 p1 p2 p3 p4 t0 t1 t2 t3 t4 t5
        have hx2a := hx2.alloc (.cells #[.int .i64 t.ty, .string t.val, .string t.fn, .int .i64 t.off, .int .i64 t.line, .int .i64 t.col] 46)
        have ka2a := ka2.alloc (.cells #[.int .i64 t.ty, .string t.val, .string t.fn, .int .i64 t.off, .int .i64 t.line, .int .i64 t.col] 46)
        have bl2a := bl2.alloc bl2.size (.cells #[.int .i64 t.ty, .string t.val, .string t.fn, .int .i64 t.off, .int .i64 t.line, .int .i64 t.col] 46)
        have kb2 := Blk.new wC 46 #[.int .i64 t.ty, .string t.val, .string t.fn, .int .i64 t.off, .int .i64 t.line, .int .i64 t.col]
        obtain ⟨b2, eb2⟩ : ∃ b, b = wC.heap.size := ⟨_, rfl⟩
        obtain ⟨wD, ewD⟩ : ∃ W, W = wC.alloc (.cells #[.int .i64 t.ty, .string t.val, .string t.fn, .int .i64 t.off, .int .i64 t.line, .int .i64 t.col] 46) := ⟨_, rfl⟩
        rw [← eb2] at kb2 ⊢
        rw [← ewD] at hx2a ka2a bl2a kb2 ⊢
        clear hx2 ka2 bl2 eb2 ewD
        have hn1 : b0 ≠ pb := ka2a.ne hx2a.blk (by decide)
        have hn2 : b2 ≠ pb := kb2.ne hx2a.blk (by decide)
        refine (next_any _ pb tb mb c nm L S s hx2a (L.length - 1) HF.out (by omega) HIj.out.le (by omega)).mono ?_
        rintro e wE ⟨rfl, hgE, hx3⟩
        have ka3 := ka2a.grown hgE (by simpa using hn1)
        have kp3 := kb2.grown hgE (by simpa using hn2)
        have bl3 := bl2a.grown hgE bl2a.size (fun x hx => by injection hx with hx; omega)
        clear hgE ka2a kb2 bl2a hx2a
        obtain ⟨-, -, p0, p1, p2, p3, p4, t0, t1, t2, t3, t4, t5, -⟩ := hx3.held (World.grownBy.refl _ _) HTT hnl
        go_wp2_with fail
        clear p0 p1 p2 p3 p4 t0 t1 t2 t3 t4 t5
        have hx3a := hx3.alloc (.cells #[.int .i64 t.ty, .string t.val, .string t.fn, .int .i64 t.off, .int .i64 t.line, .int .i64 t.col] 46)
        have ka3a := ka3.alloc (.cells #[.int .i64 t.ty, .string t.val, .string t.fn, .int .i64 t.off, .int .i64 t.line, .int .i64 t.col] 46)
        have kp3a := kp3.alloc (.cells #[.int .i64 t.ty, .string t.val, .string t.fn, .int .i64 t.off, .int .i64 t.line, .int .i64 t.col] 46)
        have bl3a := bl3.alloc bl3.size (.cells #[.int .i64 t.ty, .string t.val, .string t.fn, .int .i64 t.off, .int .i64 t.line, .int .i64 t.col] 46)
        have kb3 := Blk.new wE 46 #[.int .i64 t.ty, .string t.val, .string t.fn, .int .i64 t.off, .int .i64 t.line, .int .i64 t.col]
        obtain ⟨b3, eb3⟩ : ∃ b, b = wE.heap.size := ⟨_, rfl⟩
        obtain ⟨wF, ewF⟩ : ∃ W, W = wE.alloc (.cells #[.int .i64 t.ty, .string t.val, .string t.fn, .int .i64 t.off, .int .i64 t.line, .int .i64 t.col] 46) := ⟨_, rfl⟩
        rw [← eb3] at kb3 ⊢
        rw [← ewF] at hx3a ka3a kp3a bl3a kb3 ⊢
        clear hx3 ka3 kp3 bl3 eb3 ewF
        refine (make_any _ pb tb mb c nm L S _ _ _ hx3a).mono ?_
        rintro e wG ⟨rfl, hbG⟩
        have hx4 := hx3a.later hbG
        have ka4 := ka3a.later hbG
        have kp4 := kp3a.later hbG
        have kg4 := kb3.later hbG
        have bl4 := below_next hbG bl3a
        clear hx3a ka3a kp3a kb3 bl3a hbG
        obtain ⟨r1, n1', q1, hr1, hn1', hq1⟩ : ∃ r1 n1 q1 : Int, r1 = ((s.step S (types L)).raw : Nat) ∧ n1 = ((s.step S (types L)).next : Nat) ∧ q1 = ((s.step S (types L)).cur : Nat) := ⟨_, _, _, rfl, rfl, rfl⟩
        rw [← hr1, ← hn1', ← hq1] at hx4 ⊢
        have HEQ := Lib.hid (And.intro hr1 (And.intro hn1' hq1)); clear hr1 hn1' hq1
        have g0 := kg4.cell 0
        have g1 := kg4.cell 1
        have g2 := kg4.cell 2
        have g3 := kg4.cell 3
        have g4 := kg4.cell 4
        have g5 := kg4.cell 5
        have o0 := kp4.cell 0
        have o1 := kp4.cell 1
        have o2 := kp4.cell 2
        have o3 := kp4.cell 3
        have o4 := kp4.cell 4
        have o5 := kp4.cell 5
        simp at g0 g1 g2 g3 g4 g5 o0 o1 o2 o3 o4 o5
        have hlg := kg4.lt
        have hlp := kp4.lt
        go_wp2_with fail
        clear g0 g1 g2 g3 g4 g5 o0 o1 o2 o3 o4 o5 hlg hlp kg4 kp4
        have hx4a := hx4.alloc (.cells #[.int .i64 r1, .int .i64 n1', .int .i64 q1] 49)
        have ka4a := ka4.alloc (.cells #[.int .i64 r1, .int .i64 n1', .int .i64 q1] 49)
        have bl4a := bl4.alloc bl4.size (.cells #[.int .i64 r1, .int .i64 n1', .int .i64 q1] 49)
        have kb1 := Blk.new wG 49 #[.int .i64 r1, .int .i64 n1', .int .i64 q1]
        obtain ⟨b1, eb1⟩ : ∃ b, b = wG.heap.size := ⟨_, rfl⟩
        obtain ⟨wH, ewH⟩ : ∃ W, W = wG.alloc (.cells #[.int .i64 r1, .int .i64 n1', .int .i64 q1] 49) := ⟨_, rfl⟩
        rw [← eb1] at kb1 ⊢
        rw [← ewH] at hx4a ka4a bl4a kb1 ⊢
        clear hx4 ka4 bl4 eb1 ewH
        by_cases hE : t.ty = -1
        case pos =>
          have HE := Lib.hid hE; clear hE
          refine (eof_yes t _ HE).mono ?_
          rintro e wI ⟨rfl, hbI⟩
          have hx5 := hx4a.later hbI
          have ka5 := ka4a.later hbI
          have kb5 := kb1.later hbI
          have bl5 := below_next hbI bl4a
          clear hx4a ka4a kb1 bl4a hbI
          have hst : s.step S (types L) = s := by unfold PL.St.step; simp only [at_types, ← HTT.out, HE.out, beq_self_eq_true, if_true]
          obtain ⟨h1, h2, h3⟩ := HEQ.out
          rw [hst] at h1 h2 h3
          rw [h1, h2, h3] at hx5 kb5
          clear h1 h2 h3 HEQ
          have HST := Lib.hid hst; clear hst
          have g0 := ka5.cell 0
          have g1 := ka5.cell 1
          have g2 := ka5.cell 2
          have o0 := kb5.cell 0
          have o1 := kb5.cell 1
          have o2 := kb5.cell 2
          simp at g0 g1 g2 o0 o1 o2
          go_wp2_with fail
          go_roundg (k.toNat - (j + 1))
          case measure => rw [KK.out]; omega
          case rel => exact ⟨j + 1, rfl, by omega, rfl, by go_num, by rw [HR2.out, HST.out]; exact hx5, bl5⟩
        case neg =>
          have HE := Lib.hid hE; clear hE
          refine (eof_no t _ HE).mono ?_
          rintro e wI ⟨rfl, hbI⟩
          have hx5 := hx4a.later hbI
          have ka5 := ka4a.later hbI
          have kb5 := kb1.later hbI
          have bl5 := below_next hbI bl4a
          clear hx4a ka4a kb1 bl4a hbI
          have hst : s.step S (types L) = ⟨s.next + 1, PL.stop S (types L) (s.next + 1), s.cur + 1⟩ := by
            unfold PL.St.step; simp only [at_types, ← HTT.out, beq_eq_false_iff_ne.2 HE.out, Bool.false_eq_true, if_false]
          have hlE : s.next + 1 < L.length := by
            have h1 := HIj.out.le
            rcases Nat.lt_or_ge (s.next + 1) L.length with g | g
            · exact g
            · have e : s.next = L.length - 1 := by omega
              have := HF.out.eof
              rw [at_types, ← e, ← HTT.out] at this
              exact absurd this HE.out
          obtain ⟨h1, h2, h3⟩ := HEQ.out
          obtain ⟨nx, hnx⟩ : ∃ nx : Int, nx = n1' := ⟨_, rfl⟩
          rw [hst] at h1 h2 h3
          have h1' : r1 = (s.next : Int) + 1 := by rw [h1]; show ((s.next + 1 : Nat) : Int) = _; omega
          have h3' : q1 = (s.cur : Int) + 1 := by rw [h3]; show ((s.cur + 1 : Nat) : Int) = _; omega
          have h2' : nx = ((PL.stop S (types L) (s.next + 1) : Nat) : Int) := by rw [hnx, h2]
          rw [h1', ← hnx, h3'] at hx5 kb5
          have HST := Lib.hid hst; clear hst
          have HNX := Lib.hid h2'; clear h2'
          clear h1 h2 h3 h1' h3' hnx HEQ
          have hii0 : ¬ ((s.next : Int) + 1 ≤ (s.raw : Int)) := by omega
          have hii1 : (s.next : Int) + 1 < (L.length : Int) := by omega
          have hii2 : (s.cur : Int) ≤ 65536 := by omega
          go_wp2_with fail
          have hwr : IntKind.i64.wrap ((s.cur : Int) + 1) = (s.cur : Int) + 1 := IntWalk.i64_in _ (by omega)
          go_region_held3 (fun w' => Lx w' pb tb mb c nm L S ((s.next : Int) + 1) nx ((s.cur : Int) + 1) ∧ Blk w' b0 49 #[.int .i64 s.raw, .int .i64 s.next, .int .i64 s.cur] ∧ Blk w' b1 49 #[.int .i64 ((s.next : Int) + 1), .int .i64 nx, .int .i64 ((s.cur : Int) + 1)] ∧ Below w.heap.size w w' ∧ w'.cell? ⟨b0, 0, none⟩ = some (.int .i64 s.raw) ∧ w'.cell? ⟨b0, 1, none⟩ = some (.int .i64 s.next) ∧ w'.cell? ⟨b0, 2, none⟩ = some (.int .i64 s.cur) ∧ w'.cell? ⟨b1, 0, none⟩ = some (.int .i64 ((s.next : Int) + 1)) ∧ w'.cell? ⟨b1, 1, none⟩ = some (.int .i64 nx) ∧ w'.cell? ⟨b1, 2, none⟩ = some (.int .i64 ((s.cur : Int) + 1)))
            (first | assumption | exact heldS hx5.drew ka5.drew kb5.drew (bl5.drew) | (go_split_ands; exact heldS (Lx.later (by assumption) hbl) (Blk.later (by assumption) hbl) (Blk.later (by assumption) hbl) (below_next hbl (by assumption))))
            (first | (go_at_call 21; refine (cursor_any _ _ _ _).mono ?_; rintro e w' ⟨rfl, hbl⟩) | (go_at_call 22; refine (rawCursor_any _ _ _ _).mono ?_; rintro e w' ⟨rfl, hbl⟩))
          obtain ⟨hx6, -, kb6, bl6, -⟩ := ‹Lx _ pb tb mb c nm L S ((s.next : Int) + 1) nx ((s.cur : Int) + 1) ∧ _›
          clear hwr hx5 ka5 kb5 bl5
          have o0 := kb6.cell 0
          have o1 := kb6.cell 1
          have o2 := kb6.cell 2
          simp at o0 o1 o2
          go_wp2_with fail
          refine (rawCursor_any _ _ _ _).mono ?_
          rintro e wJ ⟨rfl, hbJ⟩
          have hx7 := hx6.later hbJ
          have bl7 := below_next hbJ bl6
          clear o0 o1 o2 hx6 kb6 bl6 hbJ
          go_wp2_with fail
          go_roundg (k.toNat - (j + 1))
          case measure => rw [KK.out]; omega
          case rel =>
            refine ⟨j + 1, rfl, by omega, rfl, by go_num, ?_, bl7⟩
            rw [HR2.out, HST.out]
            rw [HNX.out] at hx7
            show Lx _ pb tb mb c nm L S ((s.next + 1 : Nat) : Int) _ ((s.cur + 1 : Nat) : Int)
            rw [show ((s.next + 1 : Nat) : Int) = (s.next : Int) + 1 by omega, show ((s.cur + 1 : Nat) : Int) = (s.cur : Int) + 1 by omega]
            exact hx7
end fnMakeCheckpointSteps
end Go.Proofs.Ytomfonilbenhbaa
