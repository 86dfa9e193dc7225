/-
  The naive index machine of FnTop: its peekAny and its ff. Conditions: its memory is as 'Rf' says.
-/
import Derived.Test.YtomfonilbenhbaaY4
namespace Go.Proofs.Ytomfonilbenhbaa
open Go.RowKit
set_option linter.unusedSimpArgs false
set_option linter.unusedVariables false
namespace Tp
open Up
/-- m is the first index from raw on that is a stop or bears the type mt. -/
structure FirstAny (S : Int → Bool) (L : List Tok) (mt : Int) (raw m : Nat) : Prop where
  ge : raw ≤ m
  lt : m < L.length
  all : ∀ i, raw ≤ i → i < m → PL.isStop S (types L) i = false ∧ ((L.getD i eofTok).ty == mt) = false
  at' : PL.isStop S (types L) m = true ∨ ((L.getD m eofTok).ty == mt) = true
theorem FirstAny.eq {S : Int → Bool} {L : List Tok} {mt : Int} {raw m m' : Nat} (h : FirstAny S L mt raw m) (h' : FirstAny S L mt raw m') : m = m' := by
  rcases Nat.lt_trichotomy m m' with g | g | g
  · have := h'.all m h.ge g
    rcases h.at' with e | e
    · rw [e] at this; exact absurd this.1 (by simp)
    · rw [e] at this; exact absurd this.2 (by simp)
  · exact g
  · have := h.all m' h'.ge g
    rcases h'.at' with e | e
    · rw [e] at this; exact absurd this.1 (by simp)
    · rw [e] at this; exact absurd this.2 (by simp)
def RAnyPost (w : World) (S : Int → Bool) (L : List Tok) (mt : Int) (raw : Nat) (e : Ending) (w' : World) : Prop :=
  ∃ m, FirstAny S L mt raw m ∧ e = .returned (.int .i64 (m : Nat)) ∧ Below w.heap.size w w'
set_option maxHeartbeats 4000000 in
set_option maxRecDepth 100000 in
theorem rpa_any (w : World) (rb tt c : Nat) (L : List Tok) (E : Nat → Bool) (S : Int → Bool) (raw : Nat) (next cur mt : Int) (h : Rf w rb tt c L E raw next cur) (hE : ES E S) (hty : ∀ j, -1 ≤ (L.getD j eofTok).ty ∧ (L.getD j eofTok).ty ≤ 4) (hs : PL.stop S (types L) raw < L.length) (hL : L.length ≤ 1048576) :
    Calls Try.prog 39 #[.pointer (some ⟨rb, 0, none⟩), .int .i64 mt] w (RAnyPost w S L mt raw) := by
  have HS := Lib.hid hs; clear hs
  have HES : Hid (ES E S) := hE
  have HTY : Hid (∀ j, -1 ≤ (L.getD j eofTok).ty ∧ (L.getD j eofTok).ty ≤ 4) := hty
  have HH := Lib.hid h
  have hc8 := h.cell8
  clear h hE hty
  go_enter Try.func39, Try.ntmps39
  go_wp2_with fail
  clear hc8
  go_loopg [5] (L.length - raw) (fun k p wr => ∃ m : Nat, k = L.length - m ∧ raw ≤ m ∧ m ≤ PL.stop S (types L) raw ∧ p = .int .i64 m ∧ (∀ i, raw ≤ i → i < m → PL.isStop S (types L) i = false ∧ ((L.getD i eofTok).ty == mt) = false) ∧ Rf wr rb tt c L E raw next cur ∧ Below w.heap.size w wr)
  case atStart => exact ⟨raw, rfl, Nat.le_refl _, PL.le_stop _, rfl, fun i h1 h2 => absurd h1 (by omega), HH.out, Below.refl _ _⟩
  case round =>
    obtain ⟨m, hk, hnm, hms, rfl, hall, hx, hb⟩ := hrel
    have hml : m < L.length := Nat.lt_of_le_of_lt hms HS.out
    obtain ⟨t, ht⟩ : ∃ t, t = L.getD m eofTok := ⟨_, rfl⟩
    have hr := HTY.out m
    have hist : PL.isStop S (types L) m = ((L.getD m eofTok).ty == -1 || !S (L.getD m eofTok).ty) := by unfold PL.isStop; rw [at_types]
    rw [← ht] at hr hist
    have HI := Lib.hid hist; clear hist
    have HR := Lib.hid hr; clear hr
    have HT := Lib.hid ht; clear ht
    have HA := Lib.hid hall; clear hall
    have hi0 : (0 : Int) ≤ (m : Int) := by omega
    have hi1 : (m : Int) < (L.length : Int) := by omega
    have KK := Lib.hid hk; clear hk
    have c0 := hx.cell0
    obtain ⟨d0, d1, d2, d3, d4, d5⟩ := row_tok hx.row hml
    rw [← HT.out] at d0 d1 d2 d3 d4 d5
    have hx1 := hx.alloc (.cells #[.int .i64 t.ty, .string t.val, .string t.fn, .int .i64 t.off, .int .i64 t.line, .int .i64 t.col] 46)
    have hb1 := hb.alloc hb.size (.cells #[.int .i64 t.ty, .string t.val, .string t.fn, .int .i64 t.off, .int .i64 t.line, .int .i64 t.col] 46)
    have hk1 := Blk.new wr 46 #[.int .i64 t.ty, .string t.val, .string t.fn, .int .i64 t.off, .int .i64 t.line, .int .i64 t.col]
    by_cases hE : t.ty = -1
    case pos =>
      have HE := Lib.hid hE; clear hE
      have HF : Hid (FirstAny S L mt raw m) := ⟨hnm, hml, HA.out, .inl (by rw [HI.out, HE.out]; rfl)⟩
      go_wp2_with (go_at_call 36; refine (eof_yes t _ HE).mono ?_; rintro e w' ⟨rfl, hbl⟩; have hb2 := below_next hbl hb1; clear c0 d0 d1 d2 d3 d4 d5)
      go_ret
      exact ⟨m, HF.out, rfl, hb2⟩
    case neg =>
      have HE := Lib.hid hE; clear hE
      by_cases hM : t.ty = mt
      case pos =>
        have hMb : (t.ty == mt) = true := by simpa using hM
        have HF : Hid (FirstAny S L mt raw m) := ⟨hnm, hml, HA.out, .inr (by rw [← HT.out]; exact hMb)⟩
        clear hM
        go_wp2_with (go_at_call 36; refine (eof_no t _ HE).mono ?_; rintro e w' ⟨rfl, hbl⟩; have hb2 := below_next hbl hb1; have q0 := (hk1.later hbl).cell 0; simp at q0; clear c0 d0 d1 d2 d3 d4 d5)
        go_ret
        exact ⟨m, HF.out, rfl, hb2⟩
      case neg =>
        have hMb : (t.ty == mt) = false := by simpa using hM
        clear hM
        have HMB := Lib.hid hMb
        cases hS : S t.ty
        case false =>
          have HF : Hid (FirstAny S L mt raw m) := ⟨hnm, hml, HA.out, .inl (by rw [HI.out, hS, Bool.not_false, Bool.or_true])⟩
          have HSB := Lib.hid hS; clear hS
          go_wp2_with (first
            | (go_at_call 36; refine (eof_no t _ HE).mono ?_; rintro e w' ⟨rfl, hbl⟩; have hb2 := below_next hbl hb1; have q0 := (hk1.later hbl).cell 0; simp at q0; have hx2 := hx1.later hbl; clear c0 d0 d1 d2 d3 d4 d5)
            | (go_at_call 63; refine (elided_b false _ rb tt c L E S raw next cur t.ty hx2 HES HR HSB).mono ?_; rintro e w9 ⟨rfl, rfl⟩))
          go_ret
          exact ⟨m, HF.out, rfl, hb2⟩
        case true =>
          have HSB := Lib.hid hS; clear hS
          have hns : PL.isStop S (types L) m = false := by rw [HI.out, HSB.out, beq_eq_false_iff_ne.2 HE.out]; rfl
          have hne : m ≠ PL.stop S (types L) raw := fun e => by
            have := (PL.stop_spec (S := S) (T := types L) raw).2
            rw [← e, hns] at this; cases this
          have HNS := Lib.hid hns
          clear hns
          go_wp2_with (first
            | (go_at_call 36; refine (eof_no t _ HE).mono ?_; rintro e w' ⟨rfl, hbl⟩; have hb2 := below_next hbl hb1; have q0 := (hk1.later hbl).cell 0; simp at q0; have hx2 := hx1.later hbl; clear c0 d0 d1 d2 d3 d4 d5)
            | (go_at_call 63; refine (elided_b true _ rb tt c L E S raw next cur t.ty hx2 HES HR HSB).mono ?_; rintro e w9 ⟨rfl, rfl⟩))
          go_roundg (L.length - (m + 1))
          case measure => rw [KK.out]; omega
          case rel =>
            refine ⟨m + 1, rfl, by omega, by omega, by go_num, fun i h1 h2 => ?_, hx2, hb2⟩
            rcases Nat.lt_or_ge i m with g | g
            · exact HA.out i h1 g
            · have e : i = m := by omega
              rw [e, ← HT.out]
              exact ⟨HNS.out, HMB.out⟩
def RFFPost (w : World) (rb tt c : Nat) (L : List Tok) (E : Nat → Bool) (s : PL.St) (e : Ending) (w' : World) : Prop :=
  e = .returned (.tuple #[]) ∧ w.grownBy w' (some rb) ∧ Rf w' rb tt c L E s.raw s.next s.cur
set_option maxHeartbeats 4000000 in
set_option maxRecDepth 100000 in
theorem rff_any (w : World) (rb tt c : Nat) (L : List Tok) (E : Nat → Bool) (S : Int → Bool) (s : PL.St) (r : Int) (h : Rf w rb tt c L E s.raw s.next s.cur) (hES : ES E S) (hty : ∀ j, -1 ≤ (L.getD j eofTok).ty ∧ (L.getD j eofTok).ty ≤ 4) (EE : Nat) (hF : PL.First (types L) EE) (hE : EE < L.length) (hn : s.raw ≤ EE)
    (hc : s.cur ≤ 1152921504606846976) (hL : L.length ≤ 1048576) :
    Calls Try.prog 41 #[.pointer (some ⟨rb, 0, none⟩), .int .i64 r] w (RFFPost w rb tt c L E (s.ff S (types L) EE r)) := by
  obtain ⟨raw, next, cur⟩ := s
  have hn : raw ≤ EE := hn
  have hc : cur ≤ 1152921504606846976 := hc
  have HH : Hid (Rf w rb tt c L E raw next cur) := h
  have HES : Hid (ES E S) := hES
  have HTY : Hid (∀ j, -1 ≤ (L.getD j eofTok).ty ∧ (L.getD j eofTok).ty ≤ 4) := hty
  clear h hES hty
  have HF := Lib.hid hF; clear hF
  obtain ⟨R, hR⟩ : ∃ R, R = PL.ffRaw EE r raw := ⟨_, rfl⟩
  have hff : PL.St.ff S (types L) EE r ⟨raw, next, cur⟩ = ⟨R, PL.stop S (types L) R, cur + (PL.cnt S (types L) R - PL.cnt S (types L) raw)⟩ := by unfold PL.St.ff; simp only [← hR]
  have hRE : R ≤ EE := by rw [hR]; unfold PL.ffRaw; split <;> omega
  have hRr : raw ≤ R := by
    rw [hR]; unfold PL.ffRaw; split
    · omega
    · rename_i g; omega
  have HFF := Lib.hid hff; clear hff
  have HR := Lib.hid hR; clear hR
  have hsl : PL.stop S (types L) R < L.length := Nat.lt_of_le_of_lt (HF.out.stop_le hRE) hE
  go_enter Try.func41, Try.ntmps41
  go_wp2_with fail
  go_loopg [8] (EE - raw) (fun k p wr => ∃ m : Nat, k = EE - m ∧ raw ≤ m ∧ m ≤ R ∧ w.grownBy wr (some rb) ∧ Rf wr rb tt c L E m next ((cur + (PL.cnt S (types L) m - PL.cnt S (types L) raw) : Nat) : Int))
  case atStart => exact ⟨raw, rfl, Nat.le_refl _, hRr, World.grownBy.refl _ _, by rw [Nat.sub_self, Nat.add_zero]; exact HH.out⟩
  case round =>
    obtain ⟨m, hk, hm1, hm2, hg, hx⟩ := hrel
    have hml : m < L.length := by omega
    obtain ⟨t, ht⟩ : ∃ t, t = L.getD m eofTok := ⟨_, rfl⟩
    have hr := HTY.out m
    rw [← ht] at hr
    have HRG := Lib.hid hr; clear hr
    have HT := Lib.hid ht; clear ht
    obtain ⟨q, hq⟩ : ∃ q, q = cur + (PL.cnt S (types L) m - PL.cnt S (types L) raw) := ⟨_, rfl⟩
    rw [← hq] at hx
    have hqb : q ≤ 2305843009213693952 := by
      have := PL.cnt_le (S := S) (T := types L) m
      omega
    have hvt := vis_at S L m
    rw [← HT.out] at hvt
    have HV := Lib.hid hvt; clear hvt
    have HQ := Lib.hid hq; clear hq
    have KK := Lib.hid hk; clear hk
    have c0 := hx.cell0
    have c8 := hx.cell8
    have hi0 : (0 : Int) ≤ (m : Int) := by omega
    have hi1 : (m : Int) < (L.length : Int) := by omega
    by_cases hmr : (m : Int) ≤ r
    case neg =>
      have hmR : m = R := by
        have e := HR.out
        unfold PL.ffRaw at e
        split at e <;> omega
      have HM := Lib.hid hmR; clear hmR
      have f9 := hx.blk.frozen 9
      have c9 := hx.cell9
      go_wp2_with fail
      have hx2 := hx.setNext (m : Int)
      refine (radv_any _ rb tt c L E S _ _ m hx2 HES.out HTY.out (by rw [HM.out]; exact hsl) hL).mono ?_
      rintro e w2 ⟨rfl, hg3, hx3⟩
      go_wp2_with fail
      go_end0
      refine ⟨rfl, (grown_setCell hg (.inl rfl) _).trans hg3, ?_⟩
      rw [HFF.out, ← HM.out]
      rw [HQ.out] at hx3
      exact hx3
    case pos =>
      obtain ⟨d0, d1, d2, d3, d4, d5⟩ := row_tok hx.row hml
      rw [← HT.out] at d0 d1 d2 d3 d4 d5
      have hrb := hx.blk.lt
      have htb := hx.row.lt
      go_wp2_with fail
      go_region
      have hx1 := (hx.alloc (.cells #[.int .i64 t.ty, .string t.val, .string t.fn, .int .i64 t.off, .int .i64 t.line, .int .i64 t.col] 46)).drew
      have hg1 := grown_drew (grown_alloc hg (.cells #[.int .i64 t.ty, .string t.val, .string t.fn, .int .i64 t.off, .int .i64 t.line, .int .i64 t.col] 46))
      have hk1 := (Blk.new wr 46 #[.int .i64 t.ty, .string t.val, .string t.fn, .int .i64 t.off, .int .i64 t.line, .int .i64 t.col]).drew
      clear d0 d1 d2 d3 d4 d5 c0 c8 hrb htb hx hg
      by_cases hE' : t.ty = -1
      case pos =>
        have HE := Lib.hid hE'; clear hE'
        have hmR : m = R := by
          have hmE : m = EE := by
            rcases Nat.lt_or_ge m EE with g | g
            · have := HF.out.none m g
              rw [at_types, ← HT.out] at this
              exact absurd HE.out this
            · omega
          have e := HR.out
          unfold PL.ffRaw at e
          split at e <;> omega
        have HM := Lib.hid hmR; clear hmR
        go_wp2_with (go_at_call 36; refine (eof_yes t _ HE).mono ?_; rintro e w' ⟨rfl, hbl⟩; have hx2 := hx1.later hbl; have hg2 := hg1.trans (grown_of_below hbl _); have c8 := hx2.cell8; have c9 := hx2.cell9; have f9 := hx2.blk.frozen 9; clear hx1 hg1 hk1 hbl)
        have hx3 := hx2.setNext (m : Int)
        refine (radv_any _ rb tt c L E S _ _ m hx3 HES.out HTY.out (by rw [HM.out]; exact hsl) hL).mono ?_
        rintro e w2 ⟨rfl, hg3, hx4⟩
        go_wp2_with fail
        go_end0
        refine ⟨rfl, (grown_setCell hg2 (.inl rfl) _).trans hg3, ?_⟩
        rw [HFF.out, ← HM.out]
        rw [HQ.out] at hx4
        exact hx4
      case neg =>
        have HE := Lib.hid hE'; clear hE'
        have hmE : m < EE := by
          rcases Nat.lt_or_ge m EE with g | g
          · exact g
          · have e : m = EE := by omega
            have := HF.out.eof
            rw [at_types, ← e, ← HT.out] at this
            exact absurd this HE.out
        have hmR : m < R := by
          have e := HR.out
          unfold PL.ffRaw at e
          split at e <;> omega
        cases hS : S t.ty
        case false =>
          have hq1 : cur + (PL.cnt S (types L) (m + 1) - PL.cnt S (types L) raw) = q + 1 := by
            have := PL.cnt_mono (S := S) (T := types L) hm1
            rw [cnt_succ, HV.out, hS, if_pos (by rw [bne_iff_ne.2 HE.out]; rfl), HQ.out]; omega
          have HQ1 := Lib.hid hq1; clear hq1
          have HSB := Lib.hid hS; clear hS
          go_wp2_with (first
            | (go_at_call 36; refine (eof_no t _ HE).mono ?_; rintro e w' ⟨rfl, hbl⟩; have hx2 := hx1.later hbl; have hg2 := hg1.trans (grown_of_below hbl _); have q0 := (hk1.later hbl).cell 0; simp at q0; have c8 := hx2.cell8; have c10 := hx2.cell10; have f8 := hx2.blk.frozen 8; have f10 := hx2.blk.frozen 10; clear hx1 hg1 hk1 hbl)
            | (go_at_call 63; refine (elided_b false _ rb tt c L E S m next q t.ty hx2 HES HRG HSB).mono ?_; rintro e w9 ⟨rfl, rfl⟩))
          go_roundg (EE - (m + 1))
          case measure => rw [KK.out]; omega
          case rel =>
            refine ⟨m + 1, rfl, by omega, by omega, grown_setCell (grown_setCell hg2 (.inl rfl) _) (.inl rfl) _, ?_⟩
            have := (hx2.setCur ((q : Int) + 1)).setRaw ((m : Int) + 1)
            rw [HQ1.out]
            rwa [show ((m : Int) + 1) = ((m + 1 : Nat) : Int) by omega, show ((q : Int) + 1) = ((q + 1 : Nat) : Int) by omega] at this ⊢
        case true =>
          have hq1 : cur + (PL.cnt S (types L) (m + 1) - PL.cnt S (types L) raw) = q := by
            rw [cnt_succ, HV.out, hS, Bool.not_true, Bool.and_false, if_neg (by simp), HQ.out]; rfl
          have HQ1 := Lib.hid hq1; clear hq1
          have HSB := Lib.hid hS; clear hS
          go_wp2_with (first
            | (go_at_call 36; refine (eof_no t _ HE).mono ?_; rintro e w' ⟨rfl, hbl⟩; have hx2 := hx1.later hbl; have hg2 := hg1.trans (grown_of_below hbl _); have q0 := (hk1.later hbl).cell 0; simp at q0; have c8 := hx2.cell8; have f8 := hx2.blk.frozen 8; clear hx1 hg1 hk1 hbl)
            | (go_at_call 63; refine (elided_b true _ rb tt c L E S m next q t.ty hx2 HES HRG HSB).mono ?_; rintro e w9 ⟨rfl, rfl⟩))
          go_roundg (EE - (m + 1))
          case measure => rw [KK.out]; omega
          case rel =>
            refine ⟨m + 1, rfl, by omega, by omega, grown_setCell hg2 (.inl rfl) _, ?_⟩
            have := hx2.setRaw ((m : Int) + 1)
            rw [HQ1.out]
            rwa [show ((m : Int) + 1) = ((m + 1 : Nat) : Int) by omega] at this ⊢
end Tp
end Go.Proofs.Ytomfonilbenhbaa
