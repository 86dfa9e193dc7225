/-
  Contracts of b6Pred, b6FirstMatch and b6PeekAny for the three selectors. Conditions: the stream ends in EOF.
-/
import Derived.Test.YtomfonilbenhbaaN9K
namespace Go.Proofs.Ytomfonilbenhbaa
open Go.RowKit
set_option linter.unusedSimpArgs false
/-- The match function that a selector names. -/
def mSel (q : Int) : Tok → Bool := if q = 1 then mAlways else if q = 2 then mNonEmpty else mNever

theorem pred_any (t : Tok) (q : Int) (w : World) : Calls Try.prog 68 #[.agg #[.int .i64 t.ty, .string t.val, .string t.fn, .int .i64 t.off, .int .i64 t.line, .int .i64 t.col], .int .i64 q] w fun e w' => e = .returned (.bool (mSel q t)) ∧ Below w.heap.size w w' := by
  unfold mSel
  by_cases h1 : q = 1
  · subst h1
    go_enter Try.func68, Try.ntmps68
    go_wp2
    go_ret
    exact ⟨rfl, (Below.refl _ _).alloc (Nat.le_refl _) _⟩
  · rw [if_neg h1]
    have e1 : (q == 1) = false := by simp [h1]
    clear h1
    by_cases h2 : q = 2
    · subst h2
      clear e1
      go_enter Try.func68, Try.ntmps68
      go_wp2
      go_ret
      exact ⟨rfl, (Below.refl _ _).alloc (Nat.le_refl _) _⟩
    · rw [if_neg h2]
      have e2 : (q == 2) = false := by simp [h2]
      clear h2
      go_enter Try.func68, Try.ntmps68
      go_wp2_with fail
      go_ret
      exact ⟨rfl, (Below.refl _ _).alloc (Nat.le_refl _) _⟩

/-- What b6FirstMatch answers. -/
def FMPost (w : World) (L : List Tok) (M : Tok → Bool) (raw : Nat) (e : Ending) (w' : World) : Prop :=
  ∃ m : Nat, e = .returned (.int .i64 m) ∧ raw ≤ m ∧ m ≤ L.length ∧ (∀ i, raw ≤ i → i < m → M (L.getD i eofTok) = false) ∧ (m < L.length → M (L.getD m eofTok) = true) ∧ Below w.heap.size w w'
set_option maxHeartbeats 1000000 in
set_option maxRecDepth 100000 in
theorem firstMatch_any (w : World) (rb cap : Nat) (L : List Tok) (q : Int) (raw : Nat) (hr : Row w rb 46 (toksCells L)) (hl : L.length ≤ 1048576) (hrl : raw ≤ L.length) :
    Calls Try.prog 58 #[.slice (some ⟨rb, 0, none⟩) L.length cap, .int .i64 q, .int .i64 raw] w (FMPost w L (mSel q) raw) := by
  have HR := Lib.hid hr; clear hr
  go_enter Try.func58, Try.ntmps58
  go_wp2_with fail
  go_loopg [7] (L.length - raw) (fun k p wr => ∃ m : Nat, k = L.length - m ∧ raw ≤ m ∧ m ≤ L.length ∧ p = .int .i64 m ∧ (∀ i, raw ≤ i → i < m → mSel q (L.getD i eofTok) = false) ∧ Below w.heap.size w wr)
  case atStart => exact ⟨raw, rfl, Nat.le_refl _, hrl, rfl, fun i h1 h2 => absurd h1 (by omega), Below.refl _ _⟩
  case round =>
    obtain ⟨m, hk, hm0, hm1, rfl, hall, hb⟩ := hrel
    have KK := Lib.hid hk; clear hk
    have HA := Lib.hid hall; clear hall
    by_cases hml : m < L.length
    · obtain ⟨t, ht⟩ : ∃ t, t = L.getD m eofTok := ⟨_, rfl⟩
      have hr := HR.out.later hb
      have e0 := hr.cell ((toksCells_at L m 0 (by omega) hml).trans rfl)
      have e1 := hr.cell ((toksCells_at L m 1 (by omega) hml).trans rfl)
      have e2 := hr.cell ((toksCells_at L m 2 (by omega) hml).trans rfl)
      have e3 := hr.cell ((toksCells_at L m 3 (by omega) hml).trans rfl)
      have e4 := hr.cell ((toksCells_at L m 4 (by omega) hml).trans rfl)
      have e5 := hr.cell ((toksCells_at L m 5 (by omega) hml).trans rfl)
      rw [← ht] at e0 e1 e2 e3 e4 e5
      simp only [Nat.add_zero] at e0
      have HT := Lib.hid ht; clear ht hr
      have hi0 : (0 : Int) ≤ (m : Int) := by omega
      have hi1 : (m : Int) < (L.length : Int) := by omega
      go_wp2_with fail
      refine (pred_any t q _).mono ?_
      rintro e w1 ⟨rfl, hb1⟩
      have hb2 := below_next hb1 hb
      clear hb hb1 e0 e1 e2 e3 e4 e5
      cases hM : mSel q t
      · have HM := Lib.hid hM; clear hM
        go_wp2_with fail
        go_roundg (L.length - (m + 1))
        case measure => rw [KK.out]; omega
        case rel =>
          refine ⟨m + 1, rfl, by omega, by omega, by go_num, fun i h1 h2 => ?_, hb2⟩
          rcases Nat.lt_or_ge i m with g | g
          · exact HA.out i h1 g
          · have e : i = m := by omega
            rw [e, ← HT.out]
            exact HM.out
      · have HM := Lib.hid hM; clear hM
        go_wp2_with fail
        go_ret
        exact ⟨m, rfl, hm0, hm1, HA.out, fun _ => by rw [← HT.out]; exact HM.out, hb2⟩
    · have hi1 : ¬ (m : Int) < (L.length : Int) := by omega
      have hme : m = L.length := by omega
      have HME := Lib.hid hme; clear hme
      go_wp2_with fail
      go_ret
      refine ⟨L.length, rfl, hrl, Nat.le_refl _, ?_, fun h => absurd h (Nat.lt_irrefl _), hb⟩
      rw [← HME.out]; exact HA.out

set_option maxHeartbeats 1000000 in
set_option maxRecDepth 100000 in
theorem selAny0 (w : World) (pb tb mb c nm : Nat) (L : List Tok) (S : Int → Bool) (raw : Nat) (next cur : Int) (h : Lx w pb tb mb c nm L S raw next cur) (hs : PL.stop S (types L) raw < L.length) :
    Calls Try.prog 52 #[.pointer (some ⟨pb, 0, none⟩), .int .i64 0] w (AnyPost w L S mNever raw) := by
  have HS := Lib.hid hs; clear hs
  have HX := Lib.hid (h.alloc (.cells #[.int .i64 (⟨0, ByteArray.empty, ByteArray.empty, 0, 0, 0⟩ : Tok).ty, .string (⟨0, ByteArray.empty, ByteArray.empty, 0, 0, 0⟩ : Tok).val, .string (⟨0, ByteArray.empty, ByteArray.empty, 0, 0, 0⟩ : Tok).fn, .int .i64 (⟨0, ByteArray.empty, ByteArray.empty, 0, 0, 0⟩ : Tok).off, .int .i64 (⟨0, ByteArray.empty, ByteArray.empty, 0, 0, 0⟩ : Tok).line, .int .i64 (⟨0, ByteArray.empty, ByteArray.empty, 0, 0, 0⟩ : Tok).col] 46)); clear h
  have B0 := (Below.refl w.heap.size w).alloc (Nat.le_refl _) (.cells #[.int .i64 (⟨0, ByteArray.empty, ByteArray.empty, 0, 0, 0⟩ : Tok).ty, .string (⟨0, ByteArray.empty, ByteArray.empty, 0, 0, 0⟩ : Tok).val, .string (⟨0, ByteArray.empty, ByteArray.empty, 0, 0, 0⟩ : Tok).fn, .int .i64 (⟨0, ByteArray.empty, ByteArray.empty, 0, 0, 0⟩ : Tok).off, .int .i64 (⟨0, ByteArray.empty, ByteArray.empty, 0, 0, 0⟩ : Tok).line, .int .i64 (⟨0, ByteArray.empty, ByteArray.empty, 0, 0, 0⟩ : Tok).col] 46)
  have K0 := Blk.new w 46 #[.int .i64 (⟨0, ByteArray.empty, ByteArray.empty, 0, 0, 0⟩ : Tok).ty, .string (⟨0, ByteArray.empty, ByteArray.empty, 0, 0, 0⟩ : Tok).val, .string (⟨0, ByteArray.empty, ByteArray.empty, 0, 0, 0⟩ : Tok).fn, .int .i64 (⟨0, ByteArray.empty, ByteArray.empty, 0, 0, 0⟩ : Tok).off, .int .i64 (⟨0, ByteArray.empty, ByteArray.empty, 0, 0, 0⟩ : Tok).line, .int .i64 (⟨0, ByteArray.empty, ByteArray.empty, 0, 0, 0⟩ : Tok).col]
  go_enter Try.func52, Try.ntmps52
  go_wp2_with fail
  refine (peekAnyNever _ pb tb mb c nm L S raw next cur HX.out HS.out).mono ?_
  rintro e w1 ⟨m, t, ht, rfl, hm0, hm1, hall, hst, hb1⟩
  have k1 := K0.later hb1
  have b1 := below_next hb1 B0
  clear hb1 K0 B0
  have HT := Lib.hid ht; clear ht
  have HA := Lib.hid hall; clear hall
  have HST := Lib.hid hst; clear hst
  obtain ⟨x, hx⟩ : ∃ x, x = w.heap.size := ⟨_, rfl⟩
  have hxw : w.heap.size ≤ x := by omega
  rw [← hx] at k1 ⊢
  clear hx
  have q0 := k1.cell 0
  have q1 := k1.cell 1
  have q2 := k1.cell 2
  have q3 := k1.cell 3
  have q4 := k1.cell 4
  have q5 := k1.cell 5
  simp at q0 q1 q2 q3 q4 q5
  have z0 := k1.frozen 0
  have z1 := k1.frozen 1
  have z2 := k1.frozen 2
  have z3 := k1.frozen 3
  have z4 := k1.frozen 4
  have z5 := k1.frozen 5
  go_wp2_with fail
  clear q0 q1 q2 q3 q4 q5 z0 z1 z2 z3 z4 z5
  have g8 := grown6 w1 x t
  have k8 := put6 ⟨0, ByteArray.empty, ByteArray.empty, 0, 0, 0⟩ t k1
  have b8 := b1.grown g8 b1.size (fun k hk => by injection hk with hk; omega)
  clear g8
  obtain ⟨w8, hw8⟩ : ∃ w8, w8 = ((((((w1.setCell ⟨x, 0, none⟩ (.int .i64 t.ty)).setCell ⟨x, 1, none⟩ (.string t.val)).setCell ⟨x, 2, none⟩ (.string t.fn)).setCell ⟨x, 3, none⟩ (.int .i64 t.off)).setCell ⟨x, 4, none⟩ (.int .i64 t.line)).setCell ⟨x, 5, none⟩ (.int .i64 t.col)) := ⟨_, rfl⟩
  rw [← hw8] at k8 b8 ⊢
  clear hw8
  have q0 := k8.cell 0
  have q1 := k8.cell 1
  have q2 := k8.cell 2
  have q3 := k8.cell 3
  have q4 := k8.cell 4
  have q5 := k8.cell 5
  simp at q0 q1 q2 q3 q4 q5
  refine bodyPost_ret (v := .tuple #[.agg #[.int .i64 t.ty, .string t.val, .string t.fn, .int .i64 t.off, .int .i64 t.line, .int .i64 t.col], .int .i64 m]) (by simp [results, Try.results52, go_sem, q0, q1, q2, q3, q4, q5]) rfl ⟨m, t, HT.out, rfl, hm0, hm1, HA.out, HST.out, b8⟩

set_option maxHeartbeats 1000000 in
set_option maxRecDepth 100000 in
theorem selAny1 (w : World) (pb tb mb c nm : Nat) (L : List Tok) (S : Int → Bool) (raw : Nat) (next cur : Int) (h : Lx w pb tb mb c nm L S raw next cur) (hs : PL.stop S (types L) raw < L.length) :
    Calls Try.prog 52 #[.pointer (some ⟨pb, 0, none⟩), .int .i64 1] w (AnyPost w L S mAlways raw) := by
  have HS := Lib.hid hs; clear hs
  have HX := Lib.hid (h.alloc (.cells #[.int .i64 (⟨0, ByteArray.empty, ByteArray.empty, 0, 0, 0⟩ : Tok).ty, .string (⟨0, ByteArray.empty, ByteArray.empty, 0, 0, 0⟩ : Tok).val, .string (⟨0, ByteArray.empty, ByteArray.empty, 0, 0, 0⟩ : Tok).fn, .int .i64 (⟨0, ByteArray.empty, ByteArray.empty, 0, 0, 0⟩ : Tok).off, .int .i64 (⟨0, ByteArray.empty, ByteArray.empty, 0, 0, 0⟩ : Tok).line, .int .i64 (⟨0, ByteArray.empty, ByteArray.empty, 0, 0, 0⟩ : Tok).col] 46)); clear h
  have B0 := (Below.refl w.heap.size w).alloc (Nat.le_refl _) (.cells #[.int .i64 (⟨0, ByteArray.empty, ByteArray.empty, 0, 0, 0⟩ : Tok).ty, .string (⟨0, ByteArray.empty, ByteArray.empty, 0, 0, 0⟩ : Tok).val, .string (⟨0, ByteArray.empty, ByteArray.empty, 0, 0, 0⟩ : Tok).fn, .int .i64 (⟨0, ByteArray.empty, ByteArray.empty, 0, 0, 0⟩ : Tok).off, .int .i64 (⟨0, ByteArray.empty, ByteArray.empty, 0, 0, 0⟩ : Tok).line, .int .i64 (⟨0, ByteArray.empty, ByteArray.empty, 0, 0, 0⟩ : Tok).col] 46)
  have K0 := Blk.new w 46 #[.int .i64 (⟨0, ByteArray.empty, ByteArray.empty, 0, 0, 0⟩ : Tok).ty, .string (⟨0, ByteArray.empty, ByteArray.empty, 0, 0, 0⟩ : Tok).val, .string (⟨0, ByteArray.empty, ByteArray.empty, 0, 0, 0⟩ : Tok).fn, .int .i64 (⟨0, ByteArray.empty, ByteArray.empty, 0, 0, 0⟩ : Tok).off, .int .i64 (⟨0, ByteArray.empty, ByteArray.empty, 0, 0, 0⟩ : Tok).line, .int .i64 (⟨0, ByteArray.empty, ByteArray.empty, 0, 0, 0⟩ : Tok).col]
  go_enter Try.func52, Try.ntmps52
  go_wp2_with fail
  refine (peekAnyAlways _ pb tb mb c nm L S raw next cur HX.out HS.out).mono ?_
  rintro e w1 ⟨m, t, ht, rfl, hm0, hm1, hall, hst, hb1⟩
  have k1 := K0.later hb1
  have b1 := below_next hb1 B0
  clear hb1 K0 B0
  have HT := Lib.hid ht; clear ht
  have HA := Lib.hid hall; clear hall
  have HST := Lib.hid hst; clear hst
  obtain ⟨x, hx⟩ : ∃ x, x = w.heap.size := ⟨_, rfl⟩
  have hxw : w.heap.size ≤ x := by omega
  rw [← hx] at k1 ⊢
  clear hx
  have q0 := k1.cell 0
  have q1 := k1.cell 1
  have q2 := k1.cell 2
  have q3 := k1.cell 3
  have q4 := k1.cell 4
  have q5 := k1.cell 5
  simp at q0 q1 q2 q3 q4 q5
  have z0 := k1.frozen 0
  have z1 := k1.frozen 1
  have z2 := k1.frozen 2
  have z3 := k1.frozen 3
  have z4 := k1.frozen 4
  have z5 := k1.frozen 5
  go_wp2_with fail
  clear q0 q1 q2 q3 q4 q5 z0 z1 z2 z3 z4 z5
  have g8 := grown6 w1 x t
  have k8 := put6 ⟨0, ByteArray.empty, ByteArray.empty, 0, 0, 0⟩ t k1
  have b8 := b1.grown g8 b1.size (fun k hk => by injection hk with hk; omega)
  clear g8
  obtain ⟨w8, hw8⟩ : ∃ w8, w8 = ((((((w1.setCell ⟨x, 0, none⟩ (.int .i64 t.ty)).setCell ⟨x, 1, none⟩ (.string t.val)).setCell ⟨x, 2, none⟩ (.string t.fn)).setCell ⟨x, 3, none⟩ (.int .i64 t.off)).setCell ⟨x, 4, none⟩ (.int .i64 t.line)).setCell ⟨x, 5, none⟩ (.int .i64 t.col)) := ⟨_, rfl⟩
  rw [← hw8] at k8 b8 ⊢
  clear hw8
  have q0 := k8.cell 0
  have q1 := k8.cell 1
  have q2 := k8.cell 2
  have q3 := k8.cell 3
  have q4 := k8.cell 4
  have q5 := k8.cell 5
  simp at q0 q1 q2 q3 q4 q5
  refine bodyPost_ret (v := .tuple #[.agg #[.int .i64 t.ty, .string t.val, .string t.fn, .int .i64 t.off, .int .i64 t.line, .int .i64 t.col], .int .i64 m]) (by simp [results, Try.results52, go_sem, q0, q1, q2, q3, q4, q5]) rfl ⟨m, t, HT.out, rfl, hm0, hm1, HA.out, HST.out, b8⟩

set_option maxHeartbeats 1000000 in
set_option maxRecDepth 100000 in
theorem selAny2 (w : World) (pb tb mb c nm : Nat) (L : List Tok) (S : Int → Bool) (raw : Nat) (next cur : Int) (h : Lx w pb tb mb c nm L S raw next cur) (hs : PL.stop S (types L) raw < L.length) :
    Calls Try.prog 52 #[.pointer (some ⟨pb, 0, none⟩), .int .i64 2] w (AnyPost w L S mNonEmpty raw) := by
  have HS := Lib.hid hs; clear hs
  have HX := Lib.hid (h.alloc (.cells #[.int .i64 (⟨0, ByteArray.empty, ByteArray.empty, 0, 0, 0⟩ : Tok).ty, .string (⟨0, ByteArray.empty, ByteArray.empty, 0, 0, 0⟩ : Tok).val, .string (⟨0, ByteArray.empty, ByteArray.empty, 0, 0, 0⟩ : Tok).fn, .int .i64 (⟨0, ByteArray.empty, ByteArray.empty, 0, 0, 0⟩ : Tok).off, .int .i64 (⟨0, ByteArray.empty, ByteArray.empty, 0, 0, 0⟩ : Tok).line, .int .i64 (⟨0, ByteArray.empty, ByteArray.empty, 0, 0, 0⟩ : Tok).col] 46)); clear h
  have B0 := (Below.refl w.heap.size w).alloc (Nat.le_refl _) (.cells #[.int .i64 (⟨0, ByteArray.empty, ByteArray.empty, 0, 0, 0⟩ : Tok).ty, .string (⟨0, ByteArray.empty, ByteArray.empty, 0, 0, 0⟩ : Tok).val, .string (⟨0, ByteArray.empty, ByteArray.empty, 0, 0, 0⟩ : Tok).fn, .int .i64 (⟨0, ByteArray.empty, ByteArray.empty, 0, 0, 0⟩ : Tok).off, .int .i64 (⟨0, ByteArray.empty, ByteArray.empty, 0, 0, 0⟩ : Tok).line, .int .i64 (⟨0, ByteArray.empty, ByteArray.empty, 0, 0, 0⟩ : Tok).col] 46)
  have K0 := Blk.new w 46 #[.int .i64 (⟨0, ByteArray.empty, ByteArray.empty, 0, 0, 0⟩ : Tok).ty, .string (⟨0, ByteArray.empty, ByteArray.empty, 0, 0, 0⟩ : Tok).val, .string (⟨0, ByteArray.empty, ByteArray.empty, 0, 0, 0⟩ : Tok).fn, .int .i64 (⟨0, ByteArray.empty, ByteArray.empty, 0, 0, 0⟩ : Tok).off, .int .i64 (⟨0, ByteArray.empty, ByteArray.empty, 0, 0, 0⟩ : Tok).line, .int .i64 (⟨0, ByteArray.empty, ByteArray.empty, 0, 0, 0⟩ : Tok).col]
  go_enter Try.func52, Try.ntmps52
  go_wp2_with fail
  refine (peekAnyNonEmpty _ pb tb mb c nm L S raw next cur HX.out HS.out).mono ?_
  rintro e w1 ⟨m, t, ht, rfl, hm0, hm1, hall, hst, hb1⟩
  have k1 := K0.later hb1
  have b1 := below_next hb1 B0
  clear hb1 K0 B0
  have HT := Lib.hid ht; clear ht
  have HA := Lib.hid hall; clear hall
  have HST := Lib.hid hst; clear hst
  obtain ⟨x, hx⟩ : ∃ x, x = w.heap.size := ⟨_, rfl⟩
  have hxw : w.heap.size ≤ x := by omega
  rw [← hx] at k1 ⊢
  clear hx
  have q0 := k1.cell 0
  have q1 := k1.cell 1
  have q2 := k1.cell 2
  have q3 := k1.cell 3
  have q4 := k1.cell 4
  have q5 := k1.cell 5
  simp at q0 q1 q2 q3 q4 q5
  have z0 := k1.frozen 0
  have z1 := k1.frozen 1
  have z2 := k1.frozen 2
  have z3 := k1.frozen 3
  have z4 := k1.frozen 4
  have z5 := k1.frozen 5
  go_wp2_with fail
  clear q0 q1 q2 q3 q4 q5 z0 z1 z2 z3 z4 z5
  have g8 := grown6 w1 x t
  have k8 := put6 ⟨0, ByteArray.empty, ByteArray.empty, 0, 0, 0⟩ t k1
  have b8 := b1.grown g8 b1.size (fun k hk => by injection hk with hk; omega)
  clear g8
  obtain ⟨w8, hw8⟩ : ∃ w8, w8 = ((((((w1.setCell ⟨x, 0, none⟩ (.int .i64 t.ty)).setCell ⟨x, 1, none⟩ (.string t.val)).setCell ⟨x, 2, none⟩ (.string t.fn)).setCell ⟨x, 3, none⟩ (.int .i64 t.off)).setCell ⟨x, 4, none⟩ (.int .i64 t.line)).setCell ⟨x, 5, none⟩ (.int .i64 t.col)) := ⟨_, rfl⟩
  rw [← hw8] at k8 b8 ⊢
  clear hw8
  have q0 := k8.cell 0
  have q1 := k8.cell 1
  have q2 := k8.cell 2
  have q3 := k8.cell 3
  have q4 := k8.cell 4
  have q5 := k8.cell 5
  simp at q0 q1 q2 q3 q4 q5
  refine bodyPost_ret (v := .tuple #[.agg #[.int .i64 t.ty, .string t.val, .string t.fn, .int .i64 t.off, .int .i64 t.line, .int .i64 t.col], .int .i64 m]) (by simp [results, Try.results52, go_sem, q0, q1, q2, q3, q4, q5]) rfl ⟨m, t, HT.out, rfl, hm0, hm1, HA.out, HST.out, b8⟩

theorem selAny_any (q : Int) (hq0 : 0 ≤ q) (hq2 : q ≤ 2) (w : World) (pb tb mb c nm : Nat) (L : List Tok) (S : Int → Bool) (raw : Nat) (next cur : Int) (h : Lx w pb tb mb c nm L S raw next cur) (hs : PL.stop S (types L) raw < L.length) :
    Calls Try.prog 52 #[.pointer (some ⟨pb, 0, none⟩), .int .i64 q] w (AnyPost w L S (mSel q) raw) := by
  have hq : q = 0 ∨ q = 1 ∨ q = 2 := by omega
  rcases hq with rfl | rfl | rfl
  · exact selAny0 w pb tb mb c nm L S raw next cur h hs
  · exact selAny1 w pb tb mb c nm L S raw next cur h hs
  · exact selAny2 w pb tb mb c nm L S raw next cur h hs
/-- What is found is the nearer of the next stop and the first match. -/
theorem any_is {S : Int → Bool} {L : List Tok} {M : Tok → Bool} {raw m f : Nat} (hm : raw ≤ m) (hall : ∀ i, raw ≤ i → i < m → PL.isStop S (types L) i = false ∧ M (L.getD i eofTok) = false)
    (hst : PL.isStop S (types L) m = true ∨ M (L.getD m eofTok) = true) (hf : raw ≤ f) (hfa : ∀ i, raw ≤ i → i < f → M (L.getD i eofTok) = false) (hfm : f < L.length → M (L.getD f eofTok) = true) (hs : PL.stop S (types L) raw < L.length) :
    m = if f < PL.stop S (types L) raw then f else PL.stop S (types L) raw := by
  obtain ⟨g1, g2⟩ := PL.stop_spec (S := S) (T := types L) raw
  have g0 : raw ≤ PL.stop S (types L) raw := PL.le_stop raw
  generalize PL.stop S (types L) raw = z at *
  have hmz : m ≤ z := by
    rcases Nat.lt_or_ge z m with g | g
    · have := (hall z g0 g).1
      rw [g2] at this; cases this
    · exact g
  split
  · rename_i hlt
    have h1 : ¬ f < m := fun g => by
      have := (hall f hf g).2
      rw [hfm (by omega)] at this; cases this
    have h2 : ¬ m < f := fun g => by
      rcases hst with h | h
      · rw [g1 m hm (by omega)] at h; cases h
      · rw [hfa m hm g] at h; cases h
    omega
  · rename_i hge
    have h2 : ¬ m < z := fun g => by
      rcases hst with h | h
      · rw [g1 m hm g] at h; cases h
      · rw [hfa m hm (by omega)] at h; cases h
    omega

end Go.Proofs.Ytomfonilbenhbaa
