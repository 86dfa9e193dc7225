/-
  zzState: a lexer and a naive machine at the same cursors over the same tokens agree. Conditions: their memory is as 'Lx' and 'Rf' say.
-/
import Derived.Test.YtomfonilbenhbaaY5
namespace Go.Proofs.Ytomfonilbenhbaa
open Go.RowKit
set_option linter.unusedSimpArgs false
set_option linter.unusedVariables false
namespace Tp
open Up
theorem heldS {w W : World} {pb tb mb c nm rb tt c2 : Nat} {L : List Tok} {S : Int → Bool} {E : Nat → Bool} {raw next cur : Int} (h : Lx W pb tb mb c nm L S raw next cur) (h2 : Rf W rb tt c2 L E raw next cur) (hb : Below w.heap.size w W) :
    Lx W pb tb mb c nm L S raw next cur ∧ Rf W rb tt c2 L E raw next cur ∧ Below w.heap.size w W ∧ W.cell? ⟨pb, 0, none⟩ = some (.int .i64 raw) ∧ W.cell? ⟨pb, 1, none⟩ = some (.int .i64 next) ∧ W.cell? ⟨pb, 2, none⟩ = some (.int .i64 cur) ∧
    W.cell? ⟨rb, 8, none⟩ = some (.int .i64 raw) ∧ W.cell? ⟨rb, 10, none⟩ = some (.int .i64 cur) := by
  obtain ⟨c0, c1, c2, c3, c4⟩ := h.cells
  exact ⟨h, h2, hb, c0, c1, c2, h2.cell8, h2.cell10⟩
set_option maxHeartbeats 4000000 in
set_option maxRecDepth 100000 in
theorem state_any (w : World) (pb tb mb c nm rb tt c2 : Nat) (L : List Tok) (S : Int → Bool) (E : Nat → Bool) (raw next cur : Nat) (h : Lx w pb tb mb c nm L S raw next cur) (h2 : Rf w rb tt c2 L E raw next cur) (hr : raw < L.length) (hn : next < L.length) (hL : L.length ≤ 1048576) :
    Calls Try.prog 33 #[.pointer (some ⟨pb, 0, none⟩), .pointer (some ⟨rb, 0, none⟩)] w fun e w' => e = .returned (.bool true) ∧ Below w.heap.size w w' := by
  have hb := Below.refl w.heap.size w
  go_enter Try.func33, Try.ntmps33
  go_wp2_with fail
  go_region_held3 (fun w' => Lx w' pb tb mb c nm L S raw next cur ∧ Rf w' rb tt c2 L E raw next cur ∧ Below w.heap.size w w' ∧ w'.cell? ⟨pb, 0, none⟩ = some (.int .i64 raw) ∧ w'.cell? ⟨pb, 1, none⟩ = some (.int .i64 next) ∧ w'.cell? ⟨pb, 2, none⟩ = some (.int .i64 cur) ∧ w'.cell? ⟨rb, 8, none⟩ = some (.int .i64 raw) ∧ w'.cell? ⟨rb, 10, none⟩ = some (.int .i64 cur))
    (first | assumption | exact heldS h.drew h2.drew hb.drew | (go_split_ands; exact heldS (Lx.later (by assumption) hbl) (Rf.later (by assumption) hbl) (below_next hbl (by assumption))))
    (first
      | (go_at_call 21; refine (cursor_any _ _ _ _).mono ?_; rintro e w8 ⟨rfl, hbl⟩)
      | (go_at_call 22; refine (rawCursor_any _ _ _ _).mono ?_; rintro e w8 ⟨rfl, hbl⟩))
  obtain ⟨h3, h4, hb3, -⟩ := ‹Lx _ pb tb mb c nm L S raw next cur ∧ _›
  clear h h2 hb
  go_wp2_with fail
  refine (peek_any _ pb tb mb c nm L S _ _ next h3 hn).mono ?_
  rintro e w5 ⟨rfl, q5, rfl⟩
  have h5 := h3.drewN q5
  have h6 := h4.drewN q5
  have hb5 := below_drewN hb3 q5
  clear h3 h4 hb3
  go_wp2_with fail
  refine (rawPeek_any _ pb tb mb c nm L S _ _ raw h5 hr).mono ?_
  rintro e w6 ⟨rfl, q6, hq6⟩
  have h7 := h5.drewN q6
  have h8 := h6.drewN q6
  have hb7 := below_drewN hb5 q6
  rw [← hq6] at h7 h8 hb7
  clear hq6 h5 h6 hb5
  obtain ⟨t, ht⟩ : ∃ t, t = L.getD next eofTok := ⟨_, rfl⟩
  obtain ⟨u, hu⟩ : ∃ t, t = L.getD raw eofTok := ⟨_, rfl⟩
  obtain ⟨d0, d1, d2, d3, d4, d5⟩ := row_tok h7.row hn
  obtain ⟨e0, e1, e2, e3, e4, e5⟩ := row_tok h8.row hn
  obtain ⟨d6, d7, d8, d9, da, db⟩ := row_tok h7.row hr
  obtain ⟨e6, e7, e8, e9, ea, eb⟩ := row_tok h8.row hr
  rw [← ht] at d0 d1 d2 d3 d4 d5 e0 e1 e2 e3 e4 e5
  rw [← hu] at d6 d7 d8 d9 da db e6 e7 e8 e9 ea eb
  have g0 := h8.cell0
  have g8 := h8.cell8
  have g9 := h8.cell9
  have hi0 : (0 : Int) ≤ (raw : Int) := by omega
  have hi1 : (raw : Int) < (L.length : Int) := by omega
  have hi2 : (0 : Int) ≤ (next : Int) := by omega
  have hi3 : (next : Int) < (L.length : Int) := by omega
  clear ht hu h7 h8
  go_wp2_with fail
  go_quiet (fail)
  go_wp2_with fail
  go_ret
  exact ⟨rfl, below_drewN hb7 _⟩
end Tp
end Go.Proofs.Ytomfonilbenhbaa
