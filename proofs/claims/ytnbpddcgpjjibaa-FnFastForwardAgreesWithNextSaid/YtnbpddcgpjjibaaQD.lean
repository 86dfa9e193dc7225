/-
  The walk of FnFastForwardAgreesWithNext: FastForward onto the k-th visible token leaves what k + 1 calls of Next leave. Conditions: none beyond the statement's own.
-/
import Derived.Deep.AppendLies
import Derived.Test.YtnbpddcgpjjibaaT4B
namespace Go.Proofs.Ytnbpddcgpjjibaa
open Go.RowKit
set_option linter.unusedSimpArgs false
set_option linter.unusedVariables false

namespace fnFastForwardAgreesWithNext
/-- The visible indices below j. -/
def visL (S : Int → Bool) (T : List Int) : Nat → List Nat
  | 0 => []
  | j + 1 => if PL.vis S T j then visL S T j ++ [j] else visL S T j
theorem visL_length (S : Int → Bool) (T : List Int) (j : Nat) : (visL S T j).length = PL.cnt S T j := by
  induction j with
  | zero => rfl
  | succ j ih => simp only [visL, PL.cnt]; split <;> simp [ih]
theorem visL_at (S : Int → Bool) (T : List Int) (j p v : Nat) (h : (visL S T j)[p]? = some v) : v < j ∧ PL.vis S T v = true ∧ PL.cnt S T v = p := by
  induction j with
  | zero => simp [visL] at h
  | succ j ih =>
    simp only [visL] at h
    split at h
    · rename_i hv
      rcases Nat.lt_or_ge p (visL S T j).length with g | g
      · rw [List.getElem?_append_left g] at h
        obtain ⟨a, b, c⟩ := ih h
        exact ⟨by omega, b, c⟩
      · rw [List.getElem?_append_right g] at h
        rw [visL_length] at g h
        have : p - PL.cnt S T j = 0 := by
          rcases Nat.eq_zero_or_pos (p - PL.cnt S T j) with e | e
          · exact e
          · rw [List.getElem?_eq_none (by simp; omega)] at h; cases h
        rw [this] at h
        simp at h
        subst h
        exact ⟨by omega, hv, by omega⟩
    · obtain ⟨a, b, c⟩ := ih h
      exact ⟨by omega, b, c⟩
def vcells (l : List Nat) : List Value := l.map fun v => .int .i64 (v : Nat)
/-- The last token that was handed out behind j calls of Next. -/
def Last (tb : Nat) (S : Int → Bool) (T : List Int) (j : Nat) (v : Value) : Prop :=
  match j with
  | 0 => v = .pointer none
  | j + 1 => v = .pointer (some ⟨tb, ((PL.fresh S T).run S T j).next * 6, none⟩)
theorem run_bd {S : Int → Bool} {T : List Int} {E k : Nat} {s : PL.St} (I : PL.Inv S T E k s) : s.cur ≤ E := by
  rw [← I.cur]; exact Nat.le_trans (PL.cnt_le _) I.raw
theorem zz (A0 : Option Addr) (n0 c0 : Nat) (A1 : Option Addr) (n1 c1 : Nat) (k : Int) (w : World) (h0 : n0 ≤ maxLen) (h1 : n1 ≤ maxLen) :
    Calls Try.prog 46 #[.slice A0 n0 c0, .slice A1 n1 c1, .int .i64 k] w (BoolAny w) := by
  unfold maxLen at h0 h1
  go_enter Try.func46, Try.ntmps46
  go_wp2_with fail
  all_goals (go_ret; exact ⟨_, rfl, rfl⟩)

set_option maxHeartbeats 2000000 in
set_option maxRecDepth 100000 in
theorem walk (A0 : Option Addr) (n0 c0 : Nat) (z0 : List Int) (A1 : Option Addr) (n1 c1 : Nat) (z1 : List Int) (k : Int) (w : World)
    (ht : Ints .i64 w A0 n0 z0) (he : Ints .i64 w A1 n1 z1) (_ : (Lit.int .i64 k).wf = true) :
    Calls Try.prog 12 #[.slice A0 n0 c0, .slice A1 n1 c1, .int .i64 k] w fun e w' => e = .returned (.bool true) ∧ Below w.heap.size w w' := by
  have hm0 := ht.2.1
  have hm1 := he.2.1
  have HT := Lib.hid ht; clear ht
  have HE := Lib.hid he; clear he
  by_cases hsmall : n0 ≤ 32768 ∧ n1 ≤ 32768
  case neg =>
    go_enter Try.func12, Try.ntmps12
    go_wp2_with fail
    refine (zz A0 n0 c0 A1 n1 c1 k _ hm0 hm1).mono ?_
    rintro e w1 ⟨b, rfl, rfl⟩
    unfold maxLen at hm0 hm1
    cases b
    · go_wp2_with fail
      go_ret
      exact ⟨rfl, Below.refl _ _⟩
    · go_wp2_with fail
      all_goals first | (exfalso; omega) | (go_ret; exact ⟨rfl, Below.refl _ _⟩)
  obtain ⟨hs0, hs1⟩ := hsmall
  obtain ⟨i0, hi, hz0, hz1, hz2⟩ := info_parts intInfo
  have hF := t4_first z0
  have hEl := t4E_le z0
  have hlen := t4_length z0
  rw [HT.out.1] at hEl hlen
  have hwf := t4_wf z0 HT.out.2.2.1
  have hat : ∀ j, j ≤ n0 → (t4 z0).getD j eofTok = ⟨(z0 ++ [-1]).getD j (-1), ByteArray.empty, ByteArray.empty, (j : Int), 0, 0⟩ := fun j hj => t4_at z0 j (by rw [HT.out.1]; exact hj)
  have hla : PL.at_ (types (t4 z0)) n0 = -1 := by rw [at_types, hat n0 (Nat.le_refl _)]; simp [← HT.out.1]
  generalize hEd : t4E z0 = E at *
  generalize hLd : t4 z0 = L at *
  generalize hSd : inS z1 = S at *
  have HLd := Lib.hid hLd; clear hLd
  have HSd := Lib.hid hSd; clear hSd hEd
  have HF := Lib.hid hF; clear hF
  have HW := Lib.hid hwf; clear hwf
  have HA := Lib.hid hat; clear hat
  have HLA := Lib.hid hla; clear hla
  have HL := Lib.hid hlen
  have hlb : L.length ≤ 1048576 := by omega
  have hl0 : 0 < L.length := by omega
  have hEL : E < L.length := by omega
  have hln : n0 < L.length := by omega
  have hln2 : L.length ≤ n0 + 1 := by omega
  clear hlen
  go_enter Try.func12, Try.ntmps12
  go_wp2_with fail
  refine (zz A0 n0 c0 A1 n1 c1 k _ hm0 hm1).mono ?_
  rintro e w0 ⟨b, rfl, rfl⟩
  unfold maxLen at hm0 hm1
  cases b
  · go_wp2_with fail
    go_ret
    exact ⟨rfl, Below.refl _ _⟩
  go_wp2_with fail
  refine (toks_any A0 n0 c0 z0 _ HT.out hs0).mono ?_
  rw [HLd.out]
  rintro e w1 ⟨tb, cap, rfl, htb, hrow, hb1⟩
  go_wp2_with fail
  refine (elide_any A1 n1 c1 z1 _ (HE.out.later hb1) (by omega)).mono ?_
  rw [HSd.out]
  rintro e w2 ⟨mb, nm, rfl, hmb, hset, hb2⟩
  have hrow2 := hrow.later hb2
  have hbw : Below w.heap.size w w2 := below_next hb2 hb1
  have hmb2 : w.heap.size ≤ mb := Nat.le_trans hb1.size hmb
  clear hrow hb1 hb2 hmb
  go_wp2_with fail
  refine (zeof_any _ tb cap L hrow2 hlb E HF.out hEL).mono ?_
  rintro e w3' ⟨rfl, rfl⟩
  have hrl := hrow2.lt
  have hsl := hset.lt
  go_wp2_with (at_make; refine wpList_make_own _ rfl _ _ 55 rfl w2.heap.size 3 i0 _ 1 Try.underlying55 hi hz0 hz1 _ _ _ L.length rfl rfl rfl (by rw [hz2]; omega) (by unfold maxLen; omega) (Nat.le_refl _) ?_; intro w3 hown3 hg3)
  have hb3 : Below w2.heap.size w2 w3 := (Below.refl _ _).grown hg3 (Nat.le_refl _) (fun _ h => by cases h)
  clear hg3
  go_loopg [10, 11] E (fun q v i wr => ∃ j : Nat, q = E - j ∧ j ≤ E ∧ i = .int .i64 j ∧ v = .slice (some ⟨w2.heap.size, 0, none⟩) (PL.cnt S (types L) j) L.length ∧ wr.ownsRow w2.heap.size 3 1 (.slice (some ⟨w2.heap.size, 0, none⟩) (PL.cnt S (types L) j) L.length) (PL.cnt S (types L) j) (vcells (visL S (types L) j)) ∧ Below w2.heap.size w2 wr)
  case atStart => exact ⟨0, rfl, Nat.zero_le _, rfl, rfl, hown3, hb3⟩
  case round =>
    obtain ⟨j, hk, hj, rfl, rfl, hown, hbel⟩ := hrel
    have KK := Lib.hid hk; clear hk
    have hcj := PL.cnt_le (S := S) (T := types L) j
    by_cases hlt : j < E
    · have hrowr := hrow2.later hbel
      have hsetr := hset.later hbel
      obtain ⟨t, HTT, t0, t1, t2, t3, t4, t5⟩ := hrowr.tok (i := j) (by omega)
      have hwf : (Lit.int .i64 t.ty).wf = true := HW.out _ (by rw [HTT.out, List.getD_eq_getElem?_getD, List.getElem?_eq_getElem (by omega)]; simp)
      have hlk := hsetr.run Try.underlying45 Try.underlying4 Try.underlying39 (zeroBool _) hwf
      have hj0 : (0 : Int) ≤ (j : Int) := by omega
      have hj1 : (j : Int) < (L.length : Int) := by omega
      have hne : t.ty ≠ -1 := by have := HF.out.none j (by omega); rwa [at_types, ← HTT.out] at this
      have hvj : PL.vis S (types L) j = !S t.ty := by rw [vis_at, ← HTT.out]; simp [hne]
      have HVJ := Lib.hid hvj; clear hvj hne
      have hwl := hbel.size
      have hwr := hown.lt _ rfl
      obtain ⟨m, hm⟩ : ∃ m, m = PL.cnt S (types L) j := ⟨_, rfl⟩
      rw [← hm] at hown hcj ⊢
      have HM := Lib.hid hm; clear hm
      cases hS : S t.ty
      · rw [hS] at hlk
        go_wp2_with (at_builtin; refine wpList_append_fits _ rfl _ _ 55 rfl w2.heap.size 3 i0 1 Try.underlying55 hi hz1 w2.heap.size m L.length _ rfl (hown.alloc _) ⟨wr.heap.size, 0, none⟩ 1 1 [.int .i64 (j : Int)] rfl rfl ?_ ?_ (by omega) ?_; (exact World.news_of_block (heap_alloc_new _ _)); (intro u hu; simp at hu; subst hu; rfl); intro w4 hown4 hg4; have hb4 : Below w2.heap.size w2 w4 := (hbel.alloc (by omega) _).grown hg4 (by simp; omega) (fun k hk => by injection hk with hk; omega); clear hg4)
        go_roundg (E - (j + 1))
        case measure => rw [KK.out]; omega
        case rel =>
          have hc1 : PL.cnt S (types L) (j + 1) = m + 1 := by rw [cnt_succ, HVJ.out, hS, HM.out]; rfl
          refine ⟨j + 1, rfl, by omega, by go_num, ?_, ?_, hb4⟩
          · rw [hc1]
          · rw [hc1]
            have e : vcells (visL S (types L) (j + 1)) = vcells (visL S (types L) j) ++ [.int .i64 (j : Int)] := by simp only [visL, HVJ.out, hS]; simp [vcells]
            rw [e]
            exact hown4
      · rw [hS] at hlk
        go_wp2_with fail
        go_roundg (E - (j + 1))
        case measure => rw [KK.out]; omega
        case rel =>
          have hc1 : PL.cnt S (types L) (j + 1) = m := by rw [cnt_succ, HVJ.out, hS, HM.out]; rfl
          refine ⟨j + 1, rfl, by omega, by go_num, ?_, ?_, hbel⟩
          · rw [hc1]
          · rw [hc1]
            have e : vcells (visL S (types L) (j + 1)) = vcells (visL S (types L) j) := by simp only [visL, HVJ.out, hS]; simp
            rw [e]
            exact hown
    · obtain rfl : E = j := by omega
      have hwr := hown.lt _ rfl
      obtain ⟨m, hm⟩ : ∃ m, m = PL.cnt S (types L) E := ⟨_, rfl⟩
      rw [← hm] at hown hcj ⊢
      have HM := Lib.hid hm; clear hm
      by_cases hkm : 0 ≤ k ∧ k < m
      case neg =>
        go_wp2_with fail
        all_goals first | (exfalso; omega) | (go_ret; exact ⟨rfl, hbw.trans (hbel.mono hbw.size)⟩)
      obtain ⟨hk0, hk1⟩ := hkm
      obtain ⟨K, rfl⟩ : ∃ K : Nat, k = K := ⟨k.toNat, by omega⟩
      have hKm : K < (visL S (types L) E).length := by rw [visL_length, ← HM.out]; omega
      obtain ⟨v, hv⟩ : ∃ v, (visL S (types L) E)[K]? = some v := ⟨_, List.getElem?_eq_getElem hKm⟩
      obtain ⟨hvE, hvv, hvc⟩ := visL_at _ _ _ _ _ hv
      have hvrow := Row.of_own hown
      have hvk : (vcells (visL S (types L) E))[K]? = some (.int .i64 (v : Int)) := by simp [vcells, hv]
      have HVK := Lib.hid hvk; clear hvk
      have hcv := hvrow.cell HVK.out
      obtain ⟨hffr, hnx⟩ := PL.ff_is_run HF.out hvv hvE hvc
      have HFR := Lib.hid hffr; clear hffr
      have HNX := Lib.hid hnx; clear hnx hvc hvv hKm hv
      have hrowr := hrow2.later hbel
      have hsetr := hset.later hbel
      have hbwr := below_next hbel hbw
      clear hown hbel
      go_wp2_with fail
      refine (fresh_any _ tb mb cap nm L S hrowr hsetr HW.out hlb E HF.out hEL).mono ?_
      rintro e w4 ⟨p1, rfl, hp1, hx1, hb4⟩
      have hvrow4 := hvrow.later hb4
      have hbw4 := below_next hb4 hbwr
      have hcv4 := hvrow4.cell HVK.out
      have hp1v : w2.heap.size < p1 := by omega
      have hp1w : w.heap.size ≤ p1 := by have := hbw.size; omega
      have hKi0 : (0 : Int) ≤ (K : Int) := by omega
      clear hvrow hb4 hbwr hcv
      go_wp2_with fail
      refine (ff_any _ p1 tb mb cap nm L S _ (v : Int) hx1 E HF.out hEL (Nat.zero_le _) (Nat.zero_le _) (by omega)).mono ?_
      rw [HFR.out]
      rintro e w5 ⟨rfl, hg5, hx1'⟩
      have hvrow5 := hvrow4.grown hg5 (fun e => by injection e with e; omega)
      have hbw5 : Below w.heap.size w w5 := hbw4.grown hg5 hbw4.size (fun k hk => by injection hk with hk; omega)
      clear hg5 hx1 hvrow4 hbw4 hcv4
      go_wp2_with fail
      refine (fresh_any _ tb mb cap nm L S hx1'.row hx1'.set HW.out hlb E HF.out hEL).mono ?_
      rintro e w6 ⟨p2, rfl, hp2, hx2, hb6⟩
      have hp12 : p1 < p2 := Nat.lt_of_lt_of_le hx1'.lt hp2
      have hx1 := hx1'.later hb6
      have hvrow6 := hvrow5.later hb6
      have hbw6 := below_next hb6 hbw5
      clear hx1' hvrow5 hbw5 hb6
      have HI : Hid (∀ j, PL.Inv S (types L) E j ((PL.fresh S (types L)).run S (types L) j)) := fun j => PL.inv_run (S := S) HF.out j
      go_wp2_with fail
      go_loopg [14, 15] (K + 1) (fun q l i wx => ∃ j : Nat, q = K + 1 - j ∧ j ≤ K + 1 ∧ i = .int .i64 j ∧ Last tb S (types L) j l ∧ Lx wx p2 tb mb cap nm L S ((PL.fresh S (types L)).run S (types L) j).raw ((PL.fresh S (types L)).run S (types L) j).next ((PL.fresh S (types L)).run S (types L) j).cur ∧
        Lx wx p1 tb mb cap nm L S ((PL.fresh S (types L)).run S (types L) (K + 1)).raw ((PL.fresh S (types L)).run S (types L) (K + 1)).next ((PL.fresh S (types L)).run S (types L) (K + 1)).cur ∧ Row wx w2.heap.size 3 (vcells (visL S (types L) E)) ∧ Below w.heap.size w wx)
      case atStart => exact ⟨0, rfl, Nat.zero_le _, rfl, rfl, hx2, hx1, hvrow6, hbw6⟩
      case round =>
        clear hx2 hx1 hvrow6 hbw6
        obtain ⟨j, hq, hj, rfl, hl, hx2, hx1, hvr, hbx⟩ := hrel
        have KK := Lib.hid hq; clear hq
        have HL2 := Lib.hid hl; clear hl
        by_cases hlt : j ≤ K
        · have hij := HI.out j
          have HIJ := Lib.hid hij; clear hij
          go_wp2_with fail
          refine (next_any _ p2 tb mb cap nm L S _ hx2 E HF.out hEL HIJ.out.le (by have := run_bd HIJ.out; omega)).mono ?_
          rintro e w7 ⟨rfl, hg7, hx7⟩
          have hx8 := hx1.grown hg7 (fun e => by injection e with e; omega) (fun e => by injection e with e; exact hx2.pb_tb e) (fun e => by injection e with e; exact hx2.mb_pb e)
          have hv8 := hvr.grown hg7 (fun e => by injection e with e; omega)
          have hb8 : Below w.heap.size w w7 := hbx.grown hg7 hbx.size (fun k hk => by injection hk with hk; omega)
          clear hg7
          go_wp2_with fail
          go_roundg (K + 1 - (j + 1))
          case measure => rw [KK.out]; omega
          case rel => exact ⟨j + 1, rfl, by omega, by go_num, rfl, hx7, hx8, hv8, hb8⟩
        · obtain rfl : j = K + 1 := by omega
          have hl : _ = Value.pointer (some ⟨tb, ((PL.fresh S (types L)).run S (types L) K).next * 6, none⟩) := HL2.out
          rw [HNX.out] at hl
          subst hl
          clear HL2
          have hc1 := hvr.cell HVK.out
          obtain ⟨t, HTT, t0, t1, t2, t3, t4, t5⟩ := hx1.row.tok (i := v) (by omega)
          have hto : t.off = (v : Int) := by rw [HTT.out, HA.out v (by omega)]
          rw [hto] at t3
          clear hto
          have hjK : ¬ (((K + 1 : Nat) : Int) ≤ (K : Int)) := by omega
          have hjK2 : ¬ (((K : Int) + 1) ≤ (K : Int)) := by omega
          have hKm2 : (K : Int) < (m : Int) := by omega
          go_wp2_with fail
          go_quiet (fail)
          go_wp2_with fail
          refine (same_any _ p1 tb mb cap nm p2 tb mb cap nm L L S S _ _ _ (hx1.drewN _) (hx2.drewN _)).mono ?_
          rintro e w9 ⟨rfl, q9, hw9⟩
          have hb9 : Below w.heap.size w w9 := by rw [hw9]; exact below_drewN (below_drewN hbx _) _
          clear hw9
          go_wp2_with fail
          go_ret
          exact ⟨rfl, hb9⟩
end fnFastForwardAgreesWithNext
end Go.Proofs.Ytnbpddcgpjjibaa
