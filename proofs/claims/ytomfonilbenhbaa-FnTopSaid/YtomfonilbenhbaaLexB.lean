/-
  Contracts of the peeking lexer's methods over this seat's translation, second part: Next, Peek, RawPeek, checkpoints, cursors, Range. Conditions: the lexer's memory is as 'Lx' says.
-/
import Derived.Test.YtomfonilbenhbaaLex
namespace Go.Proofs.Ytomfonilbenhbaa
open Go.RowKit
set_option linter.unusedSimpArgs false

/-! ### Peek, RawPeek -/
/-- Peek hands out the token at nextCursor; nothing is written. -/
theorem peek_any (w : World) (pb tb mb c nm : Nat) (L : List Tok) (S : Int → Bool) (raw cur : Int) (n : Nat) (h : Lx w pb tb mb c nm L S raw n cur) (hn : n < L.length) :
    Calls Try.prog 25 #[.pointer (some ⟨pb, 0, none⟩)] w fun e w' => e = .returned (.pointer (some ⟨tb, n * 6, none⟩)) ∧ ∃ q, w' = w.drewN q := by
  obtain ⟨c0, c1, c2, c3, c4⟩ := h.cells
  have hi0 : (0 : Int) ≤ (n : Int) := by omega
  have hi1 : (n : Int) < (L.length : Int) := by omega
  clear h
  go_enter Try.func25, Try.ntmps25
  go_wp2_with fail
  go_quiet (fail)
  go_wp2_with fail
  go_ret
  exact ⟨rfl, _, rfl⟩
/-- RawPeek hands out the token at rawCursor; nothing is written. -/
theorem rawPeek_any (w : World) (pb tb mb c nm : Nat) (L : List Tok) (S : Int → Bool) (next cur : Int) (n : Nat) (h : Lx w pb tb mb c nm L S n next cur) (hn : n < L.length) :
    Calls Try.prog 24 #[.pointer (some ⟨pb, 0, none⟩)] w fun e w' => e = .returned (.pointer (some ⟨tb, n * 6, none⟩)) ∧ ∃ q, w' = w.drewN q := by
  obtain ⟨c0, c1, c2, c3, c4⟩ := h.cells
  have hi0 : (0 : Int) ≤ (n : Int) := by omega
  have hi1 : (n : Int) < (L.length : Int) := by omega
  clear h
  go_enter Try.func24, Try.ntmps24
  go_wp2_with fail
  go_quiet (fail)
  go_wp2_with fail
  go_ret
  exact ⟨rfl, _, rfl⟩

/-! ### Next -/
/-- What Next leaves: the token at nextCursor, and the cursors one step on. -/
def NextPost (w : World) (pb tb mb c nm : Nat) (L : List Tok) (S : Int → Bool) (s : PL.St) (e : Ending) (w' : World) : Prop :=
  e = .returned (.pointer (some ⟨tb, s.next * 6, none⟩)) ∧ w.grownBy w' (some pb) ∧ Lx w' pb tb mb c nm L S (s.step S (types L)).raw (s.step S (types L)).next (s.step S (types L)).cur
theorem next_any (w : World) (pb tb mb c nm : Nat) (L : List Tok) (S : Int → Bool) (s : PL.St) (h : Lx w pb tb mb c nm L S s.raw s.next s.cur) (E : Nat) (hF : PL.First (types L) E) (hE : E < L.length) (hn : s.next ≤ E)
    (hc : s.cur ≤ 4611686018427387904) :
    Calls Try.prog 35 #[.pointer (some ⟨pb, 0, none⟩)] w (NextPost w pb tb mb c nm L S s) := by
  obtain ⟨raw, n, cur⟩ := s
  have hn : n ≤ E := hn
  have hc : cur ≤ 4611686018427387904 := hc
  have hx : Lx w pb tb mb c nm L S raw n cur := h
  have hl := h.len
  clear h
  have hnl : n < L.length := by omega
  obtain ⟨t, ht⟩ : ∃ t, t = L.getD n eofTok := ⟨_, rfl⟩
  have HT := Lib.hid ht; clear ht
  obtain ⟨-, -, c0, c1, c2, c3, c4, t0, t1, t2, t3, t4, t5, hlk⟩ := hx.held (World.grownBy.refl _ _) HT hnl
  have hi0 : (0 : Int) ≤ (n : Int) := by omega
  have hi1 : (n : Int) < (L.length : Int) := by omega
  by_cases hE' : t.ty = -1
  case pos =>
    have HE := Lib.hid hE'; clear hE'
    have hst : PL.St.step S (types L) ⟨raw, n, cur⟩ = ⟨raw, n, cur⟩ := by unfold PL.St.step; simp only [at_types, ← HT.out, HE.out, beq_self_eq_true, if_true]
    have HST := Lib.hid hst; clear hst
    have HF := Lib.hid hF; clear hF
    go_enter Try.func35, Try.ntmps35
    go_wp2_with fail
    go_quiet (fail)
    go_wp2_with fail
    refine (eof_yes t _ HE).mono ?_
    rintro e w' ⟨rfl, hb⟩
    go_wp2_with fail
    go_ret
    refine ⟨rfl, grown_of_below (Below.trans (below_drewN (Below.refl _ _) _) hb) _, ?_⟩
    rw [HST.out]
    exact (hx.drewN _).later hb
  case neg =>
    have HE := Lib.hid hE'; clear hE'
    have hst : PL.St.step S (types L) ⟨raw, n, cur⟩ = ⟨n + 1, PL.stop S (types L) (n + 1), cur + 1⟩ := by
      unfold PL.St.step; simp only [at_types, ← HT.out, beq_eq_false_iff_ne.2 HE.out, Bool.false_eq_true, if_false]
    have HST := Lib.hid hst; clear hst
    have hlt : n < E := by
      rcases Nat.lt_or_ge n E with g | g
      · exact g
      · have e : n = E := by omega
        have := hF.eof
        rw [at_types, ← e, ← HT.out] at this
        exact absurd this HE.out
    have hsl : PL.stop S (types L) (n + 1) < L.length := Nat.lt_of_le_of_lt (hF.stop_le hlt) hE
    have HF := Lib.hid hF; clear hF
    have hcur : (cur : Int) ≤ 4611686018427387904 := by omega
    go_enter Try.func35, Try.ntmps35
    go_wp2_with fail
    go_quiet (fail)
    go_wp2_with fail
    refine (eof_no t _ HE).mono ?_
    rintro e w' ⟨rfl, hb⟩
    have hx1 : Lx w' pb tb mb c nm L S raw n cur := (hx.drewN _).later hb
    have hg1 : w.grownBy w' (some pb) := grown_of_below (Below.trans (below_drewN (Below.refl _ _) _) hb) _
    clear hb
    obtain ⟨d0, d1, d2, d3, d4⟩ := hx1.cells
    have f0 := hx1.blk.frozen 0
    have f1 := hx1.blk.frozen 1
    have f2 := hx1.blk.frozen 2
    clear c0 c1 c2 c3 c4 t0 t1 t2 t3 t4 t5 hlk
    go_wp2_with fail
    have hx2 := ((hx1.setNext ((n : Int) + 1)).setRaw ((n : Int) + 1)).setCur ((cur : Int) + 1)
    rw [show ((n : Int) + 1) = ((n + 1 : Nat) : Int) by omega, show ((cur : Int) + 1) = ((cur + 1 : Nat) : Int) by omega] at hx2 ⊢
    have hg2 := grown_setCell (p := ⟨pb, 2, none⟩) (grown_setCell (p := ⟨pb, 0, none⟩) (grown_setCell (p := ⟨pb, 1, none⟩) hg1 (.inl rfl) (.int .i64 ((n + 1 : Nat) : Int))) (.inl rfl) (.int .i64 ((n + 1 : Nat) : Int))) (.inl rfl) (.int .i64 ((cur + 1 : Nat) : Int))
    refine (adv_any _ pb tb mb c nm L S _ _ (n + 1) hx2 hsl).mono ?_
    rintro e w2 ⟨rfl, hg3, hx3⟩
    go_wp2_with fail
    go_ret
    refine ⟨rfl, hg2.trans hg3, ?_⟩
    rw [HST.out]
    exact hx3

/-! ### checkpoints -/
theorem make_any (w : World) (pb tb mb c nm : Nat) (L : List Tok) (S : Int → Bool) (raw next cur : Int) (h : Lx w pb tb mb c nm L S raw next cur) :
    Calls Try.prog 34 #[.pointer (some ⟨pb, 0, none⟩)] w fun e w' => e = .returned (.agg #[.int .i64 raw, .int .i64 next, .int .i64 cur]) ∧ Below w.heap.size w w' := by
  obtain ⟨c0, c1, c2, c3, c4⟩ := h.cells
  have hlt := h.lt
  clear h
  go_enter Try.func34, Try.ntmps34
  go_wp2_with fail
  exact bodyPost_ret (v := .agg #[.int .i64 raw, .int .i64 next, .int .i64 cur]) (by simp [results, Try.results34, go_sem]) rfl ⟨rfl, (Below.refl _ _).alloc (Nat.le_refl _) _⟩
theorem load_any (w : World) (pb tb mb c nm : Nat) (L : List Tok) (S : Int → Bool) (raw next cur raw' next' cur' : Int) (h : Lx w pb tb mb c nm L S raw next cur) :
    Calls Try.prog 42 #[.pointer (some ⟨pb, 0, none⟩), .agg #[.int .i64 raw', .int .i64 next', .int .i64 cur']] w fun e w' =>
      e = .returned (.tuple #[]) ∧ w.grownBy w' (some pb) ∧ Lx w' pb tb mb c nm L S raw' next' cur' := by
  have hx := (((h.setRaw raw').setNext next').setCur cur').alloc (.cells #[.int .i64 raw', .int .i64 next', .int .i64 cur'] 49)
  have hg := grown_alloc (grown_setCell (p := ⟨pb, 2, none⟩) (grown_setCell (p := ⟨pb, 1, none⟩) (grown_setCell (p := ⟨pb, 0, none⟩) (World.grownBy.refl w (some pb)) (.inl rfl) (.int .i64 raw')) (.inl rfl) (.int .i64 next')) (.inl rfl) (.int .i64 cur')) (.cells #[.int .i64 raw', .int .i64 next', .int .i64 cur'] 49)
  have HX := Lib.hid hx; clear hx
  have HG := Lib.hid hg; clear hg
  obtain ⟨c0, c1, c2, c3, c4⟩ := h.cells
  have hlt := h.lt
  have hne : pb ≠ w.heap.size := by omega
  have f0 := h.blk.frozen 0
  have f1 := h.blk.frozen 1
  have f2 := h.blk.frozen 2
  clear h
  go_enter Try.func42, Try.ntmps42
  go_wp2_with fail
  go_end0
  exact ⟨rfl, HG.out, HX.out⟩
theorem cursor_any (w : World) (raw next cur : Int) :
    Calls Try.prog 21 #[.agg #[.int .i64 raw, .int .i64 next, .int .i64 cur]] w fun e w' => e = .returned (.int .i64 cur) ∧ Below w.heap.size w w' := by
  go_enter Try.func21, Try.ntmps21
  go_wp2_with fail
  go_ret
  exact ⟨rfl, (Below.refl _ _).alloc (Nat.le_refl _) _⟩
theorem rawCursor_any (w : World) (raw next cur : Int) :
    Calls Try.prog 22 #[.agg #[.int .i64 raw, .int .i64 next, .int .i64 cur]] w fun e w' => e = .returned (.int .i64 raw) ∧ Below w.heap.size w w' := by
  go_enter Try.func22, Try.ntmps22
  go_wp2_with fail
  go_ret
  exact ⟨rfl, (Below.refl _ _).alloc (Nat.le_refl _) _⟩
end Go.Proofs.Ytomfonilbenhbaa
