/-
  The walk of FnTermStringNestedGroupsClosedForm: nested groups print as the closed form. Conditions: none beyond the statement's own.
-/
import Derived.Test.YtjneojglklbbfaaD7A
namespace Go.Proofs.Ytjneojglklbbfaa
open Go.RowKit
set_option linter.unusedSimpArgs false
set_option linter.unusedVariables false
namespace fnTermStringNestedGroupsClosedForm
def BoolBelow (w : World) (e : Ending) (w' : World) : Prop := ∃ b, e = .returned (.bool b) ∧ Below w.heap.size w w'
set_option maxRecDepth 100000 in
theorem zz (k : Int) (s : ByteArray) (r d : Int) (A : Option Addr) (n c : Nat) (w : World) (hn : n ≤ maxLen) (hs : s.size ≤ maxLen) : Calls Try.prog 33 #[.agg #[.int .u8 k, .string s, .int .u8 r], .int .i64 d, .slice A n c] w (BoolBelow w) := by
  unfold maxLen at hn hs
  go_enter Try.func33, Try.ntmps33
  go_wp2_with fail
  all_goals (go_ret; exact ⟨_, rfl, (Below.refl _ _).alloc (Nat.le_refl _) _⟩)
set_option maxHeartbeats 4000000 in
set_option maxRecDepth 100000 in
theorem walk (k : Int) (s : ByteArray) (r d : Int) (A : Option Addr) (n c : Nat) (z : List Int) (w : World) (wk : (Lit.int .u8 k).wf = true) (hs : s.size ≤ maxLen) (wr : (Lit.int .u8 r).wf = true) (_ : (Lit.int .i64 d).wf = true) (hz : Ints .u8 w A n z) :
    Calls Try.prog 7 #[.agg #[.int .u8 k, .string s, .int .u8 r], .int .i64 d, .slice A n c] w fun e w' => e = .returned (.bool true) ∧ Below w.heap.size w w' := by
  obtain ⟨hk0, hk1⟩ := bounds_u8 wk
  obtain ⟨hr0, hr1⟩ := bounds_u8 wr
  clear wk wr
  have hn := hz.2.1
  have HZ := Lib.hid hz; clear hz
  have hbB : ∀ o, Below w.heap.size w (w.alloc o) := fun o => (Below.refl _ _).alloc (Nat.le_refl _) _
  have HB := Lib.hid hbB; clear hbB
  have al : Hid (∀ (W : World) (o : Obj), Below W.heap.size W (W.alloc o)) := fun W o => (Below.refl _ _).alloc (Nat.le_refl _) _
  by_cases hsm : s.size ≤ 4096 ∧ n ≤ 4096 ∧ 0 ≤ d ∧ d ≤ 1024 ∧ 0 < s.size
  case neg =>
    by_cases h0 : s.size = 0
    · have he : s.toList.isEmpty = true := by rw [toList_empty, decide_eq_true_eq]; exact h0
      go_enter Try.func7, Try.ntmps7
      go_wp2_with fail
      refine (zz k s r d A n c _ hn hs).mono ?_
      rintro e w1 ⟨b, rfl, hb1⟩
      have hc0 := (hb1.cell (p := ⟨w.heap.size, 0, none⟩) (by simp))
      have hc1 := (hb1.cell (p := ⟨w.heap.size, 1, none⟩) (by simp))
      have hc2 := (hb1.cell (p := ⟨w.heap.size, 2, none⟩) (by simp))
      simp at hc0 hc1 hc2
      have hbw := below_next hb1 (HB.out _)
      clear hb1
      unfold maxLen at hn hs
      cases b
      · go_wp2_with fail
        go_ret
        exact ⟨rfl, hbw⟩
      · go_wp2_with fail
        all_goals (go_ret; exact ⟨rfl, hbw⟩)
    · have he : s.toList.isEmpty = false := by rw [toList_empty, decide_eq_false_iff_not]; exact h0
      have hor : 4096 < s.size ∨ 4096 < n ∨ d < 0 ∨ 1024 < d := by omega
      clear hsm h0
      rcases hor with h | h | h | h
      all_goals
        go_enter Try.func7, Try.ntmps7
        go_wp2_with fail
        refine (zz k s r d A n c _ hn hs).mono ?_
        rintro e w1 ⟨b, rfl, hb1⟩
        have hc0 := (hb1.cell (p := ⟨w.heap.size, 0, none⟩) (by simp))
        have hc1 := (hb1.cell (p := ⟨w.heap.size, 1, none⟩) (by simp))
        have hc2 := (hb1.cell (p := ⟨w.heap.size, 2, none⟩) (by simp))
        simp at hc0 hc1 hc2
        have hbw := below_next hb1 (HB.out _)
        clear hb1
        unfold maxLen at hn hs
        cases b
        · go_wp2_with fail
          go_ret
          exact ⟨rfl, hbw⟩
        · go_wp2_with fail
          all_goals first | (exfalso; omega) | (go_ret; exact ⟨rfl, hbw⟩)
  obtain ⟨hs1, hn1, hd0, hd1, hs0⟩ := hsm
  have he : s.toList.isEmpty = false := by rw [toList_empty, decide_eq_false_iff_not]; omega
  obtain ⟨D, rfl⟩ : ∃ D : Nat, d = D := ⟨d.toNat, by omega⟩
  go_enter Try.func7, Try.ntmps7
  go_wp2_with fail
  refine (zz k s r _ A n c _ hn hs).mono ?_
  rintro e w1 ⟨b, rfl, hb1⟩
  have hbk : Blk w1 w.heap.size 58 #[.int .u8 k, .string s, .int .u8 r] := (Blk.new w _ _).later hb1
  have hbw := below_next hb1 (HB.out _)
  have HBK := Lib.hid hbk
  have hc0 := hbk.cell 0
  have hc1 := hbk.cell 1
  have hc2 := hbk.cell 2
  simp at hc0 hc1 hc2
  clear hb1 hbk
  unfold maxLen at hn hs
  cases b
  · go_wp2_with fail
    go_ret
    exact ⟨rfl, hbw⟩
  go_wp2_with fail
  refine (cloneBytes_any A n c z _ (HZ.out.later hbw) (by omega)).mono ?_
  rintro e w2 ⟨A2, c2, rfl, hz2, hb2⟩
  have HBK2 := Lib.hid (HBK.out.later hb2)
  have hbw2 := below_next hb2 hbw
  clear HBK hb2 hbw hc0 hc1 hc2
  have hc0 := HBK2.out.cell 0
  have hc1 := HBK2.out.cell 1
  simp at hc0 hc1
  have HZ2 := Lib.hid hz2; clear hz2
  go_wp2_with fail
  refine (term_any k s 0 _ hk0 hk1 (by omega) (by omega)).mono ?_
  rintro e w3 ⟨tb, rfl, htb, hblk, hb3⟩
  have hst : specText s = s := by unfold specText; rw [if_neg (by omega)]
  rw [hst, show PS.repT 0 = ⟨#[]⟩ by decide] at hblk
  have hm3 : k % 3 = 0 ∨ k % 3 = 1 ∨ k % 3 = 2 := by omega
  have hTR := TermR.leaf hm3 hblk hs0 (by omega)
  have hLs : (leafText (k % 3) s).size ≤ 4098 := by
    unfold leafText
    have e1 : ((⟨#[60]⟩ : ByteArray)).size = 1 := rfl
    have e2 : ((⟨#[62]⟩ : ByteArray)).size = 1 := rfl
    split
    · omega
    · split
      · omega
      · simp only [PS.size_app, e1, e2]; omega
  clear hst hblk hc0 hc1
  go_wp2_with fail
  have hb23 := hb3
  have HM3 := Lib.hid hm3; clear hm3
  obtain ⟨L, hL⟩ : ∃ L, L = leafText (k % 3) s := ⟨_, rfl⟩
  rw [← hL] at hTR hLs
  have HL := Lib.hid hL; clear hL
  go_loopg [7, 8] D (fun k t i wr => ∃ j b : Nat, k = D - j ∧ j ≤ D ∧ i = .int .i64 j ∧ t = .pointer (some ⟨b, 0, none⟩) ∧ Hid (TermR wr b (nest L z j)) ∧ w2.heap.size ≤ b ∧ Below w2.heap.size w2 wr)
  case atStart => exact ⟨0, tb, rfl, Nat.zero_le _, rfl, rfl, hTR, htb, hb23⟩
  case round =>
    obtain ⟨j, b, hk, hj, rfl, rfl, HTR, hle, hbel⟩ := hrel
    have KK := Lib.hid hk; clear hk
    clear hTR hb23 hb3 htb
    by_cases hlt : j < D
    · have hns := nest_size L z j
      have hlev := Lib.hid (level (HTR.out.says) (z := z) (L := L) (j := j) (by omega))
      have hsz := hbel.size
      have hbel4 : Hid (∀ o1 o2 o3 o4, Below w2.heap.size w2 ((((wr.alloc o1).alloc o2).alloc o3).alloc o4)) := fun o1 o2 o3 o4 => (((hbel.alloc hsz _).alloc (by simp; omega) _).alloc (by simp; omega) _).alloc (by simp; omega) _
      go_wp2_with (go_at_call 36; refine (lookRune_any A2 n c2 z j _ (HZ2.out.later (hbel4.out _ _ _ _)) (by omega) (by omega)).mono ?_; rintro e w9 ⟨rfl, rfl⟩)
      go_roundg (D - (j + 1))
      case measure => rw [KK.out]; omega
      case rel => exact ⟨j + 1, wr.heap.size + 1 + 1 + 1 + 1 + 1, rfl, by omega, by go_num, rfl, hlev, by omega, ((hbel4.out _ _ _ _).alloc (by simp; omega) _).alloc (by simp; omega) _⟩
    · obtain rfl : D = j := by omega
      clear hlt
      have HBK3 := Lib.hid (HBK2.out.later hbel)
      have hc2 := HBK3.out.cell 2
      simp at hc2
      obtain ⟨hc5, hf5⟩ := HTR.out.cell
      have hrs := PS.repT_size r
      have HTS := Lib.hid (HTR.out.set hrs)
      have hns := nest_size L z D
      have hlb : w.heap.size < w2.heap.size := HBK2.out.lt
      go_wp2_with (go_at_call 37; refine (rep_any r _ hr0 hr1).mono ?_; rintro e w9 ⟨rfl, rfl⟩)
      have hb5 : Below w2.heap.size w2 (wr.setCell ⟨b, 5, none⟩ (.string (PS.repT r))) := hbel.setCell (p := ⟨b, 5, none⟩) hle _
      generalize wr.setCell ⟨b, 5, none⟩ (.string (PS.repT r)) = w5 at HTS hb5 ⊢
      refine (HTS.out _ (grown_refl _ _)).mono ?_
      rintro e w6 ⟨rfl, hb6⟩
      have hbel6 := below_next hb6 hb5
      have hbk6 := HBK2.out.later hbel6
      have hd0 := hbk6.cell 0
      have hd1 := hbk6.cell 1
      have hd2 := hbk6.cell 2
      simp at hd0 hd1 hd2
      clear hb6 hb5 hc5 hf5 hc2 HTS hbk6 HBK3
      go_wp2_with fail
      go_loopg [13, 14] D (fun k t i wr => ∃ (j : Nat) (q : Int), k = D - j ∧ j ≤ D ∧ q = (D : Int) - 1 - (j : Int) ∧ i = .int .i64 q ∧ t = .string (opens z D j) ∧ wr = w6)
      case atStart => exact ⟨0, (D : Int) - 1, rfl, Nat.zero_le _, by omega, rfl, rfl, rfl⟩
      case round =>
        obtain ⟨j, q, hk, hj, hq, rfl, rfl, rfl⟩ := hrel
        have KK := Lib.hid hk; clear hk
        have hos := opens_size z D j
        by_cases hlt : j < D
        · obtain ⟨m, rfl⟩ : ∃ m : Nat, q = m := ⟨D - (j + 1), by omega⟩
          have hmd : D - (j + 1) = m := by omega
          have hop : opens z D (j + 1) = opens z D j ++ ((⟨#[40]⟩ : ByteArray) ++ lookT z m) := by rw [← hmd]; rfl
          have HOP := Lib.hid hop; clear hop
          have hmD : m ≤ 1024 := by omega
          have hqq : (m : Int) - 1 = (D : Int) - 1 - ((j + 1 : Nat) : Int) := by omega
          have HQ := Lib.hid hqq; clear hqq hmd hq
          have hls := lookT_size z m
          have e1 : ((⟨#[40]⟩ : ByteArray)).size = 1 := rfl
          have hm0 : (0 : Int) ≤ (m : Int) := by omega
          go_wp2_with (go_at_call 39; refine (lookText_any A2 n c2 z m _ (HZ2.out.later hbel6) (by omega) (by omega)).mono ?_; rintro e w9 ⟨rfl, rfl⟩)
          go_roundg (D - (j + 1))
          case measure => rw [KK.out]; omega
          case rel => exact ⟨j + 1, (m : Int) - 1, rfl, by omega, HQ.out, rfl, by rw [HOP.out], rfl⟩
        · obtain rfl : D = j := by omega
          have hqn : q < 0 := by omega
          clear hlt hq
          have htm : k.tmod 3 = k % 3 := Int.tmod_eq_emod_of_nonneg hk0
          have hcl := nest_closed L z D (PS.repT r)
          rw [HL.out] at hcl
          have hM3 := HM3.out
          obtain ⟨m, hm⟩ : ∃ m, m = k % 3 := ⟨_, rfl⟩
          rw [← hm] at htm hcl hM3
          have HNL : Hid (nest (leafText m s) z D = nest L z D) := by rw [HL.out, hm]; rfl
          rw [HNL.out] at hcl
          have HCL := Lib.hid hcl
          clear hcl hm
          generalize nest L z D = G at HCL hns ⊢
          have e1 : ((⟨#[41]⟩ : ByteArray)).size = 1 := rfl
          have e2 : ((⟨#[60]⟩ : ByteArray)).size = 1 := rfl
          have e3 : ((⟨#[62]⟩ : ByteArray)).size = 1 := rfl
          rcases hM3 with rfl | rfl | rfl
          · have HC2 : Hid (opens z D D ++ s ++ closers D ++ PS.repT r = G ++ PS.repT r) := HCL.out
            clear HCL HNL
            have hPs : (opens z D D ++ s).size ≤ 20000 := by simp only [PS.size_app, e2, e3]; omega
            go_wp2_with fail
            generalize opens z D D ++ s = P at HC2 hPs ⊢
            go_loopg [13, 15] D (fun k t i wq => ∃ j : Nat, k = D - j ∧ j ≤ D ∧ i = .int .i64 j ∧ t = .string (P ++ closers j) ∧ wq = wr)
            case atStart => exact ⟨0, rfl, Nat.zero_le _, rfl, congrArg Value.string (PS.app_empty _).symm, rfl⟩
            case round =>
              obtain ⟨j, hk, hj, rfl, rfl, rfl⟩ := hrel
              have KK := Lib.hid hk; clear hk
              have hcs := closers_size j
              have hPc : (P ++ closers j).size = P.size + (closers j).size := PS.size_app _ _
              by_cases hlt : j < D
              · have hcc : P ++ closers (j + 1) = P ++ closers j ++ (⟨#[41]⟩ : ByteArray) := by rw [PS.app_assoc]; rfl
                have HCC := Lib.hid hcc
                clear hcc
                have hP2 : (P ++ closers j).size ≤ 30000 := by omega
                clear hPc hcs
                generalize P ++ closers j = T at HCC hP2 ⊢
                go_wp2_with fail
                go_roundg (D - (j + 1))
                case measure => rw [KK.out]; omega
                case rel => exact ⟨j + 1, rfl, by omega, by go_num, by rw [HCC.out], rfl⟩
              · obtain rfl : D = j := by omega
                have hP2 : (P ++ closers D).size ≤ 30000 := by omega
                clear hPc hcs
                generalize P ++ closers D = T at HC2 hP2 ⊢
                have hfin := HC2.out
                go_wp2_with (go_at_call 37; refine (rep_any r _ hr0 hr1).mono ?_; rintro e w9 ⟨rfl, rfl⟩)
                go_ret
                exact ⟨rfl, hbw2.trans (hbel6.mono hbw2.size)⟩
          · have HC2 : Hid (opens z D D ++ s ++ closers D ++ PS.repT r = G ++ PS.repT r) := HCL.out
            clear HCL HNL
            have hPs : (opens z D D ++ s).size ≤ 20000 := by simp only [PS.size_app, e2, e3]; omega
            go_wp2_with fail
            generalize opens z D D ++ s = P at HC2 hPs ⊢
            go_loopg [13, 15] D (fun k t i wq => ∃ j : Nat, k = D - j ∧ j ≤ D ∧ i = .int .i64 j ∧ t = .string (P ++ closers j) ∧ wq = wr)
            case atStart => exact ⟨0, rfl, Nat.zero_le _, rfl, congrArg Value.string (PS.app_empty _).symm, rfl⟩
            case round =>
              obtain ⟨j, hk, hj, rfl, rfl, rfl⟩ := hrel
              have KK := Lib.hid hk; clear hk
              have hcs := closers_size j
              have hPc : (P ++ closers j).size = P.size + (closers j).size := PS.size_app _ _
              by_cases hlt : j < D
              · have hcc : P ++ closers (j + 1) = P ++ closers j ++ (⟨#[41]⟩ : ByteArray) := by rw [PS.app_assoc]; rfl
                have HCC := Lib.hid hcc
                clear hcc
                have hP2 : (P ++ closers j).size ≤ 30000 := by omega
                clear hPc hcs
                generalize P ++ closers j = T at HCC hP2 ⊢
                go_wp2_with fail
                go_roundg (D - (j + 1))
                case measure => rw [KK.out]; omega
                case rel => exact ⟨j + 1, rfl, by omega, by go_num, by rw [HCC.out], rfl⟩
              · obtain rfl : D = j := by omega
                have hP2 : (P ++ closers D).size ≤ 30000 := by omega
                clear hPc hcs
                generalize P ++ closers D = T at HC2 hP2 ⊢
                have hfin := HC2.out
                go_wp2_with (go_at_call 37; refine (rep_any r _ hr0 hr1).mono ?_; rintro e w9 ⟨rfl, rfl⟩)
                go_ret
                exact ⟨rfl, hbw2.trans (hbel6.mono hbw2.size)⟩
          · have HC2 : Hid (opens z D D ++ ((⟨#[60]⟩ : ByteArray) ++ s ++ ⟨#[62]⟩) ++ closers D ++ PS.repT r = G ++ PS.repT r) := HCL.out
            clear HCL HNL
            have hPs : (opens z D D ++ ((⟨#[60]⟩ : ByteArray) ++ s ++ ⟨#[62]⟩)).size ≤ 20000 := by simp only [PS.size_app, e2, e3]; omega
            go_wp2_with fail
            generalize opens z D D ++ ((⟨#[60]⟩ : ByteArray) ++ s ++ ⟨#[62]⟩) = P at HC2 hPs ⊢
            go_loopg [13, 15] D (fun k t i wq => ∃ j : Nat, k = D - j ∧ j ≤ D ∧ i = .int .i64 j ∧ t = .string (P ++ closers j) ∧ wq = wr)
            case atStart => exact ⟨0, rfl, Nat.zero_le _, rfl, congrArg Value.string (PS.app_empty _).symm, rfl⟩
            case round =>
              obtain ⟨j, hk, hj, rfl, rfl, rfl⟩ := hrel
              have KK := Lib.hid hk; clear hk
              have hcs := closers_size j
              have hPc : (P ++ closers j).size = P.size + (closers j).size := PS.size_app _ _
              by_cases hlt : j < D
              · have hcc : P ++ closers (j + 1) = P ++ closers j ++ (⟨#[41]⟩ : ByteArray) := by rw [PS.app_assoc]; rfl
                have HCC := Lib.hid hcc
                clear hcc
                have hP2 : (P ++ closers j).size ≤ 30000 := by omega
                clear hPc hcs
                generalize P ++ closers j = T at HCC hP2 ⊢
                go_wp2_with fail
                go_roundg (D - (j + 1))
                case measure => rw [KK.out]; omega
                case rel => exact ⟨j + 1, rfl, by omega, by go_num, by rw [HCC.out], rfl⟩
              · obtain rfl : D = j := by omega
                have hP2 : (P ++ closers D).size ≤ 30000 := by omega
                clear hPc hcs
                generalize P ++ closers D = T at HC2 hP2 ⊢
                have hfin := HC2.out
                go_wp2_with (go_at_call 37; refine (rep_any r _ hr0 hr1).mono ?_; rintro e w9 ⟨rfl, rfl⟩)
                go_ret
                exact ⟨rfl, hbw2.trans (hbel6.mono hbw2.size)⟩
end fnTermStringNestedGroupsClosedForm
end Go.Proofs.Ytjneojglklbbfaa
