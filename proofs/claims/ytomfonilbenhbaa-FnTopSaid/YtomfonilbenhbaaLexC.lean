/-
  The contract of FastForward over this seat's translation. Conditions: the lexer's memory is as 'Lx' says.
-/
import Derived.Test.YtomfonilbenhbaaLexB
namespace Go.Proofs.Ytomfonilbenhbaa
open Go.RowKit
set_option linter.unusedSimpArgs false

theorem cnt_succ (S : Int → Bool) (T : List Int) (i : Nat) : PL.cnt S T (i + 1) = PL.cnt S T i + (if PL.vis S T i then 1 else 0) := rfl
theorem vis_at (S : Int → Bool) (L : List Tok) (i : Nat) : PL.vis S (types L) i = ((L.getD i eofTok).ty != -1 && !S (L.getD i eofTok).ty) := by unfold PL.vis; rw [at_types]

def FFPost (w : World) (pb tb mb c nm : Nat) (L : List Tok) (S : Int → Bool) (s : PL.St) (e : Ending) (w' : World) : Prop :=
  e = .returned (.tuple #[]) ∧ w.grownBy w' (some pb) ∧ Lx w' pb tb mb c nm L S s.raw s.next s.cur

set_option maxHeartbeats 1000000 in
set_option maxRecDepth 100000 in
theorem ff_any (w : World) (pb tb mb c nm : Nat) (L : List Tok) (S : Int → Bool) (s : PL.St) (r : Int) (h : Lx w pb tb mb c nm L S s.raw s.next s.cur) (E : Nat) (hF : PL.First (types L) E) (hE : E < L.length) (hn : s.raw ≤ E)
    (hc : s.cur ≤ 1152921504606846976) (hL : L.length ≤ 1152921504606846976) :
    Calls Try.prog 40 #[.pointer (some ⟨pb, 0, none⟩), .int .i64 r] w (FFPost w pb tb mb c nm L S (s.ff S (types L) E r)) := by
  obtain ⟨raw, next, cur⟩ := s
  have hn : raw ≤ E := hn
  have hc : cur ≤ 1152921504606846976 := hc
  have HH : Hid (Lx w pb tb mb c nm L S raw next cur) := h
  have hl := h.len
  clear h
  have HF := Lib.hid hF; clear hF
  obtain ⟨R, hR⟩ : ∃ R, R = PL.ffRaw E r raw := ⟨_, rfl⟩
  have hff : PL.St.ff S (types L) E r ⟨raw, next, cur⟩ = ⟨R, PL.stop S (types L) R, cur + (PL.cnt S (types L) R - PL.cnt S (types L) raw)⟩ := by unfold PL.St.ff; simp only [← hR]
  have hRE : R ≤ E := by rw [hR]; unfold PL.ffRaw; split <;> omega
  have hRr : raw ≤ R := by
    rw [hR]; unfold PL.ffRaw; split
    · omega
    · rename_i g; omega
  have HFF := Lib.hid hff; clear hff
  have HR := Lib.hid hR; clear hR
  have hsl : PL.stop S (types L) R < L.length := Nat.lt_of_le_of_lt (HF.out.stop_le hRE) hE
  go_enter Try.func40, Try.ntmps40
  go_wp2_with fail
  go_loopg [4] (E - raw) (fun k p wr => ∃ m : Nat, k = E - m ∧ raw ≤ m ∧ m ≤ R ∧ w.grownBy wr (some pb) ∧ Lx wr pb tb mb c nm L S m next ((cur + (PL.cnt S (types L) m - PL.cnt S (types L) raw) : Nat) : Int))
  case atStart => exact ⟨raw, rfl, Nat.le_refl _, hRr, World.grownBy.refl _ _, by rw [Nat.sub_self, Nat.add_zero]; exact HH.out⟩
  case round =>
    obtain ⟨m, hk, hm1, hm2, hg, hx⟩ := hrel
    have hml : m < L.length := by omega
    obtain ⟨t, ht⟩ : ∃ t, t = L.getD m eofTok := ⟨_, rfl⟩
    have HT := Lib.hid ht; clear ht
    obtain ⟨q, hq⟩ : ∃ q, q = cur + (PL.cnt S (types L) m - PL.cnt S (types L) raw) := ⟨_, rfl⟩
    rw [← hq] at hx
    have hqb : q ≤ 2305843009213693952 := by
      have := PL.cnt_le (S := S) (T := types L) m
      omega
    have hvt := vis_at S L m
    rw [← HT.out] at hvt
    have HV := Lib.hid hvt; clear hvt
    have HQ := Lib.hid hq; clear hq
    have KK := Lib.hid hk; clear hk
    obtain ⟨-, -, c0, c1, c2, c3, c4, t0, t1, t2, t3, t4, t5, hlk⟩ := hx.held hg HT hml
    have hi0 : (0 : Int) ≤ (m : Int) := by omega
    have hi1 : (m : Int) < (L.length : Int) := by omega
    by_cases hmr : (m : Int) ≤ r
    case neg =>
      have hmR : m = R := by
        have e := HR.out
        unfold PL.ffRaw at e
        split at e <;> omega
      have HM := Lib.hid hmR; clear hmR
      have f1 := hx.blk.frozen 1
      go_wp2_with fail
      have hx2 := hx.setNext (m : Int)
      refine (adv_any _ pb tb mb c nm L S _ _ m hx2 (by rw [HM.out]; exact hsl)).mono ?_
      rintro e w2 ⟨rfl, hg3, hx3⟩
      go_wp2_with fail
      go_end0
      refine ⟨rfl, (grown_setCell hg (.inl rfl) _).trans hg3, ?_⟩
      rw [HFF.out, ← HM.out]
      rw [HQ.out] at hx3
      exact hx3
    case pos =>
      by_cases hE' : t.ty = -1
      case pos =>
        have HE := Lib.hid hE'; clear hE'
        have hmR : m = R := by
          have hmE : m = E := by
            rcases Nat.lt_or_ge m E with g | g
            · have := HF.out.none m g
              rw [at_types, ← HT.out] at this
              exact absurd HE.out this
            · omega
          have e := HR.out
          unfold PL.ffRaw at e
          split at e <;> omega
        have HM := Lib.hid hmR; clear hmR
        go_wp2_with fail
        go_quiet (fail)
        go_wp2_with fail
        refine (eof_yes t _ HE).mono ?_
        rintro e w' ⟨rfl, hb⟩
        have hx1 := (hx.drewN nq).later hb
        have hg1 : w.grownBy w' (some pb) := World.grownBy.trans (grown_drewN hg _) (grown_of_below hb _)
        clear hb
        obtain ⟨d0, d1, d2, d3, d4⟩ := hx1.cells
        have f1 := hx1.blk.frozen 1
        clear c0 c1 c2 c3 c4 t0 t1 t2 t3 t4 t5 hlk
        go_wp2_with fail
        have hx2 := hx1.setNext (m : Int)
        refine (adv_any _ pb tb mb c nm L S _ _ m hx2 (by rw [HM.out]; exact hsl)).mono ?_
        rintro e w2 ⟨rfl, hg3, hx3⟩
        go_wp2_with fail
        go_end0
        refine ⟨rfl, (grown_setCell hg1 (.inl rfl) _).trans hg3, ?_⟩
        rw [HFF.out, ← HM.out]
        rw [HQ.out] at hx3
        exact hx3
      case neg =>
        have HE := Lib.hid hE'; clear hE'
        have hmE : m < E := by
          rcases Nat.lt_or_ge m E with g | g
          · exact g
          · have e : m = E := by omega
            have := HF.out.eof
            rw [at_types, ← e, ← HT.out] at this
            exact absurd this HE.out
        have hmR : m < R := by
          have e := HR.out
          unfold PL.ffRaw at e
          split at e <;> omega
        go_wp2_with fail
        go_quiet (fail)
        go_wp2_with fail
        refine (eof_no t _ HE).mono ?_
        rintro e w' ⟨rfl, hb⟩
        have hx1 := (hx.drewN nq).later hb
        have hg1 : w.grownBy w' (some pb) := World.grownBy.trans (grown_drewN hg _) (grown_of_below hb _)
        clear hb
        clear c0 c1 c2 c3 c4 t0 t1 t2 t3 t4 t5 hlk
        obtain ⟨-, -, c0, c1, c2, c3, c4, t0, t1, t2, t3, t4, t5, hlk⟩ := hx1.held hg1 HT hml
        have hlq := hx1.looksN HT hml
        have f0 := hx1.blk.frozen 0
        have f2 := hx1.blk.frozen 2
        have hcs := PL.cnt_mono (S := S) (T := types L) hm1
        cases hS : S t.ty
        · have hcq : (cur + (PL.cnt S (types L) (m + 1) - PL.cnt S (types L) raw) : Nat) = q + 1 := by
            rw [cnt_succ, HV.out, hS, HQ.out]
            simp only [bne_iff_ne.2 HE.out, Bool.not_false, Bool.and_true, if_true]
            omega
          have HC := Lib.hid hcq; clear hcq hcs
          go_wp2_with fail
          go_quiet (fail)
          go_wp2_with fail
          go_roundg (E - (m + 1))
          case measure => rw [KK.out]; omega
          case rel =>
            refine ⟨m + 1, rfl, by omega, hmR, grown_setCell (grown_setCell (grown_drewN hg1 _) (.inl rfl) _) (.inl rfl) _, ?_⟩
            rw [HC.out]
            rw [show ((m + 1 : Nat) : Int) = (m : Int) + 1 by omega, show ((q + 1 : Nat) : Int) = (q : Int) + 1 by omega]
            exact ((hx1.drewN _).setCur ((q : Int) + 1)).setRaw ((m : Int) + 1)
        · have hcq : (cur + (PL.cnt S (types L) (m + 1) - PL.cnt S (types L) raw) : Nat) = q := by
            rw [cnt_succ, HV.out, hS, HQ.out]
            simp only [Bool.not_true, Bool.and_false, Bool.false_eq_true, if_false]
            omega
          have HC := Lib.hid hcq; clear hcq hcs
          go_wp2_with fail
          go_quiet (fail)
          go_wp2_with fail
          go_roundg (E - (m + 1))
          case measure => rw [KK.out]; omega
          case rel =>
            refine ⟨m + 1, rfl, by omega, hmR, grown_setCell (grown_drewN hg1 _) (.inl rfl) _, ?_⟩
            rw [HC.out]
            rw [show ((m + 1 : Nat) : Int) = (m : Int) + 1 by omega]
            exact (hx1.drewN _).setRaw ((m : Int) + 1)
end Go.Proofs.Ytomfonilbenhbaa
