/-
  The naive index machine of FnTop: its elided and its adv. Conditions: its memory is as 'Rf' says.
-/
import Derived.Test.YtomfonilbenhbaaY3
namespace Go.Proofs.Ytomfonilbenhbaa
open Go.RowKit
set_option linter.unusedSimpArgs false
set_option linter.unusedVariables false
namespace Tp
open Up
/-- The cells of the naive machine. -/
def rfCells (tt n c : Nat) (E : Nat → Bool) (raw next cur : Int) : Array Value := #[.slice (some ⟨tt, 0, none⟩) n c, .bool (E 0), .bool (E 1), .bool (E 2), .bool (E 3), .bool (E 4), .bool (E 5), .bool (E 6), .int .i64 raw, .int .i64 next, .int .i64 cur]
structure Rf (w : World) (rb tt c : Nat) (L : List Tok) (E : Nat → Bool) (raw next cur : Int) : Prop where
  blk : Blk w rb 64 (rfCells tt L.length c E raw next cur)
  row : Row w tt 46 (toksCells L)
section
variable {w w' : World} {rb tt c : Nat} {L : List Tok} {E : Nat → Bool} {raw next cur : Int}
theorem Rf.later (h : Rf w rb tt c L E raw next cur) (hb : Below w.heap.size w w') : Rf w' rb tt c L E raw next cur := ⟨h.blk.later hb, h.row.later hb⟩
theorem Rf.drewN (h : Rf w rb tt c L E raw next cur) (n : Nat) : Rf (w.drewN n) rb tt c L E raw next cur := ⟨h.blk, h.row⟩
theorem Rf.drew (h : Rf w rb tt c L E raw next cur) : Rf w.drew rb tt c L E raw next cur := ⟨h.blk, h.row⟩
theorem Rf.alloc (h : Rf w rb tt c L E raw next cur) (o : Obj) : Rf (w.alloc o) rb tt c L E raw next cur := ⟨h.blk.alloc o, h.row.alloc o⟩
theorem Rf.grown {row : Option Nat} (h : Rf w rb tt c L E raw next cur) (hb : w.grownBy w' row) (h1 : some rb ≠ row) (h2 : some tt ≠ row) : Rf w' rb tt c L E raw next cur := ⟨h.blk.grown hb h1, h.row.grown hb h2⟩
theorem Rf.ne (h : Rf w rb tt c L E raw next cur) : tt ≠ rb := h.row.ne_blk h.blk (by decide)
theorem Rf.cell0 (h : Rf w rb tt c L E raw next cur) : w.cell? ⟨rb, 0, none⟩ = some (.slice (some ⟨tt, 0, none⟩) L.length c) := h.blk.cell 0
theorem Rf.cell8 (h : Rf w rb tt c L E raw next cur) : w.cell? ⟨rb, 8, none⟩ = some (.int .i64 raw) := h.blk.cell 8
theorem Rf.cell9 (h : Rf w rb tt c L E raw next cur) : w.cell? ⟨rb, 9, none⟩ = some (.int .i64 next) := h.blk.cell 9
theorem Rf.cell10 (h : Rf w rb tt c L E raw next cur) : w.cell? ⟨rb, 10, none⟩ = some (.int .i64 cur) := h.blk.cell 10
theorem Rf.el (h : Rf w rb tt c L E raw next cur) {N : Nat} (hN : N < 7) : w.cell? ⟨rb, 1 + N, none⟩ = some (.bool (E N)) := by
  match N, hN with
  | 0, _ | 1, _ | 2, _ | 3, _ | 4, _ | 5, _ | 6, _ => exact h.blk.cell _
theorem Rf.setRaw (h : Rf w rb tt c L E raw next cur) (x : Int) : Rf (w.setCell ⟨rb, 8, none⟩ (.int .i64 x)) rb tt c L E x next cur := ⟨h.blk.set 8 _, h.row.far (p := ⟨rb, 8, none⟩) h.ne _⟩
theorem Rf.setNext (h : Rf w rb tt c L E raw next cur) (x : Int) : Rf (w.setCell ⟨rb, 9, none⟩ (.int .i64 x)) rb tt c L E raw x cur := ⟨h.blk.set 9 _, h.row.far (p := ⟨rb, 9, none⟩) h.ne _⟩
theorem Rf.setCur (h : Rf w rb tt c L E raw next cur) (x : Int) : Rf (w.setCell ⟨rb, 10, none⟩ (.int .i64 x)) rb tt c L E raw next x := ⟨h.blk.set 10 _, h.row.far (p := ⟨rb, 10, none⟩) h.ne _⟩
theorem Rf.held {w0 : World} {m : Nat} {t : Tok} (h : Rf w rb tt c L E raw m cur) (hg : w0.grownBy w (some rb)) (ht : Hid (t = L.getD m eofTok)) (hm : m < L.length) :
    Rf w rb tt c L E raw m cur ∧ w0.grownBy w (some rb) ∧ w.cell? ⟨rb, 0, none⟩ = some (.slice (some ⟨tt, 0, none⟩) L.length c) ∧ w.cell? ⟨rb, 9, none⟩ = some (.int .i64 m) ∧
    w.cell? ⟨tt, m * 6, none⟩ = some (.int .i64 t.ty) ∧ w.cell? ⟨tt, m * 6 + 1, none⟩ = some (.string t.val) ∧ w.cell? ⟨tt, m * 6 + 1 + 1, none⟩ = some (.string t.fn) ∧ w.cell? ⟨tt, m * 6 + 1 + 1 + 1, none⟩ = some (.int .i64 t.off) ∧ w.cell? ⟨tt, m * 6 + 1 + 1 + 1 + 1, none⟩ = some (.int .i64 t.line) ∧ w.cell? ⟨tt, m * 6 + 1 + 1 + 1 + 1 + 1, none⟩ = some (.int .i64 t.col) := by
  have := row_tok h.row hm
  rw [← ht.out] at this
  exact ⟨h, hg, h.cell0, h.cell9, this⟩
end
/-- The table of the machine agrees with the set at the types that the tokens bear. -/
def ES (E : Nat → Bool) (S : Int → Bool) : Prop := ∀ N : Nat, N < 6 → E N = S ((N : Int) - 1)
theorem elided_any (w : World) (rb tt c : Nat) (L : List Tok) (E : Nat → Bool) (S : Int → Bool) (raw next cur t : Int) (h : Rf w rb tt c L E raw next cur) (hE : ES E S) (h0 : -1 ≤ t) (h1 : t ≤ 4) :
    Calls Try.prog 63 #[.pointer (some ⟨rb, 0, none⟩), .int .i64 t] w fun e w' => e = .returned (.bool (S t)) ∧ w = w' := by
  obtain ⟨N, hN⟩ : ∃ N : Nat, t + 1 = (N : Int) := ⟨(t + 1).toNat, by omega⟩
  have hN6 : N < 6 := by omega
  have hc := h.el (N := N) (by omega)
  have hEN := hE N hN6
  rw [show (N : Int) - 1 = t by omega] at hEN
  rw [hEN] at hc
  have htn : (t + 1).toNat = N := by omega
  have ha0 : (0 : Int) ≤ t + 1 := by omega
  have ha1 : t + 1 < 7 := by omega
  clear h hE hEN hN
  go_enter Try.func63, Try.ntmps63
  go_wp2_with fail
  go_ret
  exact ⟨rfl, rfl⟩
theorem elided_b (b : Bool) (w : World) (rb tt c : Nat) (L : List Tok) (E : Nat → Bool) (S : Int → Bool) (raw next cur t : Int) (h : Rf w rb tt c L E raw next cur) (hE : Hid (ES E S)) (hr : Hid (-1 ≤ t ∧ t ≤ 4)) (hb : Hid (S t = b)) :
    Calls Try.prog 63 #[.pointer (some ⟨rb, 0, none⟩), .int .i64 t] w fun e w' => e = .returned (.bool b) ∧ w = w' := by
  have := elided_any w rb tt c L E S raw next cur t h hE.out hr.out.1 hr.out.2
  rwa [hb.out] at this
def RAdv (w : World) (rb tt c : Nat) (L : List Tok) (E : Nat → Bool) (S : Int → Bool) (raw cur : Int) (n : Nat) (e : Ending) (w' : World) : Prop :=
  e = .returned (.tuple #[]) ∧ w.grownBy w' (some rb) ∧ Rf w' rb tt c L E raw (PL.stop S (types L) n : Nat) cur
set_option maxHeartbeats 4000000 in
set_option maxRecDepth 100000 in
theorem radv_any (w : World) (rb tt c : Nat) (L : List Tok) (E : Nat → Bool) (S : Int → Bool) (raw cur : Int) (n : Nat) (h : Rf w rb tt c L E raw n cur) (hE : ES E S) (hty : ∀ j, -1 ≤ (L.getD j eofTok).ty ∧ (L.getD j eofTok).ty ≤ 4) (hs : PL.stop S (types L) n < L.length) (hL : L.length ≤ 1048576) :
    Calls Try.prog 32 #[.pointer (some ⟨rb, 0, none⟩)] w (RAdv w rb tt c L E S raw cur n) := by
  have HS := Lib.hid hs; clear hs
  have HES : Hid (ES E S) := hE
  have HTY : Hid (∀ j, -1 ≤ (L.getD j eofTok).ty ∧ (L.getD j eofTok).ty ≤ 4) := hty
  have HH := Lib.hid h
  clear h hE hty
  go_enter Try.func32, Try.ntmps32
  go_wp2_with fail
  go_loopg [2] (L.length - n) (fun k p wr => ∃ m : Nat, k = L.length - m ∧ n ≤ m ∧ m ≤ PL.stop S (types L) n ∧ PL.stop S (types L) m = PL.stop S (types L) n ∧ w.grownBy wr (some rb) ∧ Rf wr rb tt c L E raw m cur)
  case atStart => exact ⟨n, rfl, Nat.le_refl _, PL.le_stop _, rfl, World.grownBy.refl _ _, HH.out⟩
  case round =>
    obtain ⟨m, hk, hnm, hms, hst, hg, hx⟩ := hrel
    have hml : m < L.length := Nat.lt_of_le_of_lt hms HS.out
    obtain ⟨t, ht⟩ : ∃ t, t = L.getD m eofTok := ⟨_, rfl⟩
    have hr := HTY.out m
    rw [← ht] at hr
    have HR := Lib.hid hr; clear hr
    have HT := Lib.hid ht; clear ht
    have hi0 : (0 : Int) ≤ (m : Int) := by omega
    have hi1 : (m : Int) < (L.length : Int) := by omega
    have KK := Lib.hid hk; clear hk
    have KS := Lib.hid hst; clear hst
    have hist : PL.isStop S (types L) m = (t.ty == -1 || !S t.ty) := by unfold PL.isStop; rw [at_types, ← HT.out]
    have HI := Lib.hid hist; clear hist
    by_cases hE : t.ty = -1
    case neg =>
      have HE := Lib.hid hE; clear hE
      cases hS : S t.ty
      · have HSB := Lib.hid hS; clear hS
        go_wp2_with fail
        go_region_held3 (fun w' => Rf w' rb tt c L E raw m cur ∧ w.grownBy w' (some rb) ∧ w'.cell? ⟨rb, 0, none⟩ = some (.slice (some ⟨tt, 0, none⟩) L.length c) ∧ w'.cell? ⟨rb, 9, none⟩ = some (.int .i64 m) ∧ w'.cell? ⟨tt, m * 6, none⟩ = some (.int .i64 t.ty) ∧ w'.cell? ⟨tt, m * 6 + 1, none⟩ = some (.string t.val) ∧ w'.cell? ⟨tt, m * 6 + 1 + 1, none⟩ = some (.string t.fn) ∧ w'.cell? ⟨tt, m * 6 + 1 + 1 + 1, none⟩ = some (.int .i64 t.off) ∧ w'.cell? ⟨tt, m * 6 + 1 + 1 + 1 + 1, none⟩ = some (.int .i64 t.line) ∧ w'.cell? ⟨tt, m * 6 + 1 + 1 + 1 + 1 + 1, none⟩ = some (.int .i64 t.col))
          (first | assumption | exact Rf.held hx.drew (grown_drew hg) HT hml | (go_split_ands; exact Rf.held (Rf.later (by assumption) hbl) (World.grownBy.trans (by assumption) (grown_of_below hbl _)) HT hml))
          (first | (go_at_call 36; refine (eof_no t _ HE).mono ?_; rintro e w' ⟨rfl, hbl⟩) | (go_at_call 63; refine (elided_b false _ rb tt c L E S raw m cur t.ty (by go_split_ands; assumption) HES HR HSB).mono ?_; rintro e w' ⟨rfl, rfl⟩))
        obtain ⟨hx1, hg1, -⟩ := ‹Rf _ rb tt c L E raw m cur ∧ _›
        go_wp2_with fail
        refine bodyPost_ret (v := .tuple #[]) (by simp [results, Try.results32]) rfl ⟨rfl, hg1, ?_⟩
        rw [← KS.out, PL.stop_of_stop (by rw [HI.out, HSB.out, beq_eq_false_iff_ne.2 HE.out]; rfl)]
        exact hx1
      · have HSB := Lib.hid hS; clear hS
        go_wp2_with fail
        go_region_held3 (fun w' => Rf w' rb tt c L E raw m cur ∧ w.grownBy w' (some rb) ∧ w'.cell? ⟨rb, 0, none⟩ = some (.slice (some ⟨tt, 0, none⟩) L.length c) ∧ w'.cell? ⟨rb, 9, none⟩ = some (.int .i64 m) ∧ w'.cell? ⟨tt, m * 6, none⟩ = some (.int .i64 t.ty) ∧ w'.cell? ⟨tt, m * 6 + 1, none⟩ = some (.string t.val) ∧ w'.cell? ⟨tt, m * 6 + 1 + 1, none⟩ = some (.string t.fn) ∧ w'.cell? ⟨tt, m * 6 + 1 + 1 + 1, none⟩ = some (.int .i64 t.off) ∧ w'.cell? ⟨tt, m * 6 + 1 + 1 + 1 + 1, none⟩ = some (.int .i64 t.line) ∧ w'.cell? ⟨tt, m * 6 + 1 + 1 + 1 + 1 + 1, none⟩ = some (.int .i64 t.col))
          (first | assumption | exact Rf.held hx.drew (grown_drew hg) HT hml | (go_split_ands; exact Rf.held (Rf.later (by assumption) hbl) (World.grownBy.trans (by assumption) (grown_of_below hbl _)) HT hml))
          (first | (go_at_call 36; refine (eof_no t _ HE).mono ?_; rintro e w' ⟨rfl, hbl⟩) | (go_at_call 63; refine (elided_b true _ rb tt c L E S raw m cur t.ty (by go_split_ands; assumption) HES HR HSB).mono ?_; rintro e w' ⟨rfl, rfl⟩))
        obtain ⟨hx1, hg1, -⟩ := ‹Rf _ rb tt c L E raw m cur ∧ _›
        have hfz := hx1.blk.frozen 9
        go_wp2_with fail
        have hns : PL.isStop S (types L) m = false := by rw [HI.out, HSB.out, beq_eq_false_iff_ne.2 HE.out]; rfl
        have hne : m ≠ PL.stop S (types L) n := fun e => by
          have := (PL.stop_spec (S := S) (T := types L) n).2
          rw [← e, hns] at this; cases this
        go_roundg (L.length - (m + 1))
        case measure => rw [KK.out]; omega
        case rel => exact ⟨m + 1, rfl, by omega, by omega, by rw [← PL.stop_of_not hns]; exact KS.out, grown_setCell hg1 (.inl rfl) _, by have := hx1.setNext ((m : Int) + 1); rwa [show ((m : Int) + 1) = ((m + 1 : Nat) : Int) by omega] at this⟩
    case pos =>
      have HE := Lib.hid hE; clear hE
      go_wp2_with fail
      refine wp_region_held_drew (S := (fun w' => Rf w' rb tt c L E raw m cur ∧ w.grownBy w' (some rb) ∧ w'.cell? ⟨rb, 0, none⟩ = some (.slice (some ⟨tt, 0, none⟩) L.length c) ∧ w'.cell? ⟨rb, 9, none⟩ = some (.int .i64 m) ∧ w'.cell? ⟨tt, m * 6, none⟩ = some (.int .i64 t.ty) ∧ w'.cell? ⟨tt, m * 6 + 1, none⟩ = some (.string t.val) ∧ w'.cell? ⟨tt, m * 6 + 1 + 1, none⟩ = some (.string t.fn) ∧ w'.cell? ⟨tt, m * 6 + 1 + 1 + 1, none⟩ = some (.int .i64 t.off) ∧ w'.cell? ⟨tt, m * 6 + 1 + 1 + 1 + 1, none⟩ = some (.int .i64 t.line) ∧ w'.cell? ⟨tt, m * 6 + 1 + 1 + 1 + 1 + 1, none⟩ = some (.int .i64 t.col))) (by kernel_rfl) (Rf.held hx.drew (grown_drew hg) HT hml) (fun hHeld => ?_)
      refine wpAnyH_take (i := 0) (v := ?_) rfl (by kernel_rfl) (by kernel_rfl) (by kernel_rfl) (fun _ _ _ h => h) (Or.inl ⟨by rfl, ?_⟩) (by assumption) ?_
      rotate_left
      · (intro w hSw; (try dsimp only at hSw); go_simp; try (with_reducible rfl))
      try simp only [Act.put, List.getElem_toArray, List.getElem_cons_zero, List.getElem_cons_succ, List.setIfInBounds_toArray, List.set_cons_zero, List.set_cons_succ]
      refine wpAnyH_take (i := 1) (v := ?_) rfl (by kernel_rfl) (by kernel_rfl) (by kernel_rfl) (fun _ _ _ h => h) (Or.inl ⟨by rfl, ?_⟩) (by assumption) ?_
      rotate_left
      · (intro w hSw; (try dsimp only at hSw); go_simp; try (with_reducible rfl))
      try simp only [Act.put, List.getElem_toArray, List.getElem_cons_zero, List.getElem_cons_succ, List.setIfInBounds_toArray, List.set_cons_zero, List.set_cons_succ]
      refine wpAnyH_take (i := 2) (v := ?_) rfl (by kernel_rfl) (by kernel_rfl) (by kernel_rfl) (fun _ _ _ h => h) (Or.inl ⟨by rfl, ?_⟩) (by assumption) ?_
      rotate_left
      · (intro w hSw; (try dsimp only at hSw); go_simp; try (with_reducible rfl))
      try simp only [Act.put, List.getElem_toArray, List.getElem_cons_zero, List.getElem_cons_succ, List.setIfInBounds_toArray, List.set_cons_zero, List.set_cons_succ]
      refine wpAnyH_take (i := 3) (v := ?_) rfl (by kernel_rfl) (by kernel_rfl) (by kernel_rfl) (fun _ _ _ h => h) (Or.inl ⟨by rfl, ?_⟩) (by assumption) ?_
      rotate_left
      · (intro w hSw; (try dsimp only at hSw); go_simp; try (with_reducible rfl))
      try simp only [Act.put, List.getElem_toArray, List.getElem_cons_zero, List.getElem_cons_succ, List.setIfInBounds_toArray, List.set_cons_zero, List.set_cons_succ]
      refine wpAnyH_take (i := 4) (v := ?_) rfl (by kernel_rfl) (by kernel_rfl) (by kernel_rfl) (fun _ _ _ h => h) (Or.inl ⟨by rfl, ?_⟩) (by assumption) ?_
      rotate_left
      · (intro w hSw; (try dsimp only at hSw); go_simp; try (with_reducible rfl))
      try simp only [Act.put, List.getElem_toArray, List.getElem_cons_zero, List.getElem_cons_succ, List.setIfInBounds_toArray, List.set_cons_zero, List.set_cons_succ]
      refine wpAnyH_take (i := 5) (v := ?_) rfl (by kernel_rfl) (by kernel_rfl) (by kernel_rfl) (fun _ _ _ h => h) (Or.inl ⟨by rfl, ?_⟩) (by assumption) ?_
      rotate_left
      · (intro w hSw; (try dsimp only at hSw); go_simp; try (with_reducible rfl))
      try simp only [Act.put, List.getElem_toArray, List.getElem_cons_zero, List.getElem_cons_succ, List.setIfInBounds_toArray, List.set_cons_zero, List.set_cons_succ]
      refine wpAnyH_take (i := 6) (v := ?_) rfl (by kernel_rfl) (by kernel_rfl) (by kernel_rfl) (fun _ _ _ h => h) (Or.inl ⟨by rfl, ?_⟩) (by assumption) ?_
      rotate_left
      · (intro w hSw; (try dsimp only at hSw); go_simp; try (with_reducible rfl))
      try simp only [Act.put, List.getElem_toArray, List.getElem_cons_zero, List.getElem_cons_succ, List.setIfInBounds_toArray, List.set_cons_zero, List.set_cons_succ]
      refine wpAnyH_take (i := 7) (v := ?_) rfl (by kernel_rfl) (by kernel_rfl) (by kernel_rfl) (fun _ _ _ h => h) (Or.inl ⟨by rfl, ?_⟩) (by assumption) ?_
      rotate_left
      · (intro w hSw; (try dsimp only at hSw); go_simp; try (with_reducible rfl))
      try simp only [Act.put, List.getElem_toArray, List.getElem_cons_zero, List.getElem_cons_succ, List.setIfInBounds_toArray, List.set_cons_zero, List.set_cons_succ]
      refine wpAnyH_take (i := 8) (v := ?_) rfl (by kernel_rfl) (by kernel_rfl) (by kernel_rfl) (fun _ _ _ h => h) (Or.inl ⟨by rfl, ?_⟩) (by assumption) ?_
      rotate_left
      · (intro w hSw; (try dsimp only at hSw); go_simp; try (with_reducible rfl))
      try simp only [Act.put, List.getElem_toArray, List.getElem_cons_zero, List.getElem_cons_succ, List.setIfInBounds_toArray, List.set_cons_zero, List.set_cons_succ]
      refine wpAnyH_take (i := 9) (v := ?_) rfl (by kernel_rfl) (by kernel_rfl) (by kernel_rfl) (fun _ _ _ h => h) (Or.inl ⟨by rfl, ?_⟩) (by assumption) ?_
      rotate_left
      · (intro w hSw; (try dsimp only at hSw); go_simp; try (with_reducible rfl))
      try simp only [Act.put, List.getElem_toArray, List.getElem_cons_zero, List.getElem_cons_succ, List.setIfInBounds_toArray, List.set_cons_zero, List.set_cons_succ]
      refine wpAnyH_ready (rs := [10]) (by kernel_rfl) (by simp) ?_
      refine AllReadyH.cons rfl (fun K hK => ?_) AllReadyH.nil
      go_simp
      refine (eof_yes t _ HE).mono ?_
      rintro e w' ⟨rfl, hbl⟩
      refine hK.out _ _ (Rf.held (Rf.later hx.drew hbl) (World.grownBy.trans (grown_drew hg) (grown_of_below hbl _)) HT hml) (fun hHeld => ?_)
      clear hK K
      try simp only [Act.put, List.getElem_toArray, List.getElem_cons_zero, List.getElem_cons_succ, List.setIfInBounds_toArray, List.set_cons_zero, List.set_cons_succ]
      refine wpAnyH_take (i := 11) (v := ?_) rfl (by kernel_rfl) (by kernel_rfl) (by kernel_rfl) (fun _ _ _ h => h) (Or.inl ⟨by rfl, ?_⟩) (by assumption) ?_
      rotate_left
      · (intro w hSw; (try dsimp only at hSw); go_simp; try (with_reducible rfl))
      try simp only [Act.put, List.getElem_toArray, List.getElem_cons_zero, List.getElem_cons_succ, List.setIfInBounds_toArray, List.set_cons_zero, List.set_cons_succ]
      refine wpAnyH_take (i := 12) (v := ?_) rfl (by kernel_rfl) (by kernel_rfl) (by kernel_rfl) (fun _ _ _ h => h) (Or.inl ⟨by rfl, ?_⟩) (by assumption) ?_
      rotate_left
      · (intro w hSw; (try dsimp only at hSw); go_simp; try (with_reducible rfl))
      try simp only [Act.put, List.getElem_toArray, List.getElem_cons_zero, List.getElem_cons_succ, List.setIfInBounds_toArray, List.set_cons_zero, List.set_cons_succ]
      refine wpAnyH_take (i := 13) (v := undef) rfl (by kernel_rfl) (by kernel_rfl) (by kernel_rfl) (fun _ _ _ h => h) (Or.inr ⟨by rfl, rfl⟩) (by assumption) ?_
      try simp only [Act.put, List.getElem_toArray, List.getElem_cons_zero, List.getElem_cons_succ, List.setIfInBounds_toArray, List.set_cons_zero, List.set_cons_succ]
      refine wpAnyH_take (i := 14) (v := undef) rfl (by kernel_rfl) (by kernel_rfl) (by kernel_rfl) (fun _ _ _ h => h) (Or.inr ⟨by rfl, rfl⟩) (by assumption) ?_
      try simp only [Act.put, List.getElem_toArray, List.getElem_cons_zero, List.getElem_cons_succ, List.setIfInBounds_toArray, List.set_cons_zero, List.set_cons_succ]
      refine wpAnyH_take (i := 15) (v := undef) rfl (by kernel_rfl) (by kernel_rfl) (by kernel_rfl) (fun _ _ _ h => h) (Or.inr ⟨by rfl, rfl⟩) (by assumption) ?_
      try simp only [Act.put, List.getElem_toArray, List.getElem_cons_zero, List.getElem_cons_succ, List.setIfInBounds_toArray, List.set_cons_zero, List.set_cons_succ]
      refine wpAnyH_take (i := 16) (v := undef) rfl (by kernel_rfl) (by kernel_rfl) (by kernel_rfl) (fun _ _ _ h => h) (Or.inr ⟨by rfl, rfl⟩) (by assumption) ?_
      try simp only [Act.put, List.getElem_toArray, List.getElem_cons_zero, List.getElem_cons_succ, List.setIfInBounds_toArray, List.set_cons_zero, List.set_cons_succ]
      refine wpAnyH_take (i := 17) (v := undef) rfl (by kernel_rfl) (by kernel_rfl) (by kernel_rfl) (fun _ _ _ h => h) (Or.inr ⟨by rfl, rfl⟩) (by assumption) ?_
      try simp only [Act.put, List.getElem_toArray, List.getElem_cons_zero, List.getElem_cons_succ, List.setIfInBounds_toArray, List.set_cons_zero, List.set_cons_succ]
      refine wpAnyH_take (i := 18) (v := undef) rfl (by kernel_rfl) (by kernel_rfl) (by kernel_rfl) (fun _ _ _ h => h) (Or.inr ⟨by rfl, rfl⟩) (by assumption) ?_
      try simp only [Act.put, List.getElem_toArray, List.getElem_cons_zero, List.getElem_cons_succ, List.setIfInBounds_toArray, List.set_cons_zero, List.set_cons_succ]
      refine wpAnyH_take (i := 19) (v := undef) rfl (by kernel_rfl) (by kernel_rfl) (by kernel_rfl) (fun _ _ _ h => h) (Or.inr ⟨by rfl, rfl⟩) (by assumption) ?_
      try simp only [Act.put, List.getElem_toArray, List.getElem_cons_zero, List.getElem_cons_succ, List.setIfInBounds_toArray, List.set_cons_zero, List.set_cons_succ]
      refine wpAnyH_take (i := 20) (v := undef) rfl (by kernel_rfl) (by kernel_rfl) (by kernel_rfl) (fun _ _ _ h => h) (Or.inr ⟨by rfl, rfl⟩) (by assumption) ?_
      try simp only [Act.put, List.getElem_toArray, List.getElem_cons_zero, List.getElem_cons_succ, List.setIfInBounds_toArray, List.set_cons_zero, List.set_cons_succ]
      refine wpAnyH_take (i := 21) (v := undef) rfl (by kernel_rfl) (by kernel_rfl) (by kernel_rfl) (fun _ _ _ h => h) (Or.inr ⟨by rfl, rfl⟩) (by assumption) ?_
      try simp only [Act.put, List.getElem_toArray, List.getElem_cons_zero, List.getElem_cons_succ, List.setIfInBounds_toArray, List.set_cons_zero, List.set_cons_succ]
      refine wpAnyH_take (i := 22) (v := undef) rfl (by kernel_rfl) (by kernel_rfl) (by kernel_rfl) (fun _ _ _ h => h) (Or.inr ⟨by rfl, rfl⟩) (by assumption) ?_
      try simp only [Act.put, List.getElem_toArray, List.getElem_cons_zero, List.getElem_cons_succ, List.setIfInBounds_toArray, List.set_cons_zero, List.set_cons_succ]
      refine wpAnyH_take (i := 23) (v := undef) rfl (by kernel_rfl) (by kernel_rfl) (by kernel_rfl) (fun _ _ _ h => h) (Or.inr ⟨by rfl, rfl⟩) (by assumption) ?_
      try simp only [Act.put, List.getElem_toArray, List.getElem_cons_zero, List.getElem_cons_succ, List.setIfInBounds_toArray, List.set_cons_zero, List.set_cons_succ]
      refine wpAnyH_take (i := 24) (v := undef) rfl (by kernel_rfl) (by kernel_rfl) (by kernel_rfl) (fun _ _ _ h => h) (Or.inr ⟨by rfl, rfl⟩) (by assumption) ?_
      try simp only [Act.put, List.getElem_toArray, List.getElem_cons_zero, List.getElem_cons_succ, List.setIfInBounds_toArray, List.set_cons_zero, List.set_cons_succ]
      refine wpAnyH_take (i := 25) (v := undef) rfl (by kernel_rfl) (by kernel_rfl) (by kernel_rfl) (fun _ _ _ h => h) (Or.inr ⟨by rfl, rfl⟩) (by assumption) ?_
      try simp only [Act.put, List.getElem_toArray, List.getElem_cons_zero, List.getElem_cons_succ, List.setIfInBounds_toArray, List.set_cons_zero, List.set_cons_succ]
      refine wpAnyH_take (i := 26) (v := ?_) rfl (by kernel_rfl) (by kernel_rfl) (by kernel_rfl) (fun _ _ _ h => h) (Or.inl ⟨by rfl, ?_⟩) (by assumption) ?_
      rotate_left
      · (intro w hSw; (try dsimp only at hSw); go_simp; try (with_reducible rfl))
      try simp only [Act.put, List.getElem_toArray, List.getElem_cons_zero, List.getElem_cons_succ, List.setIfInBounds_toArray, List.set_cons_zero, List.set_cons_succ]
      refine wpAnyH_done (by kernel_rfl) ?_ _
      obtain ⟨hx1, hg1, -⟩ := ‹Rf _ rb tt c L E raw m cur ∧ _›
      go_wp2_with fail
      refine bodyPost_ret (v := .tuple #[]) (by simp [results, Try.results32]) rfl ⟨rfl, hg1, ?_⟩
      rw [← KS.out, PL.stop_of_stop (by rw [HI.out, HE.out]; rfl)]
      exact hx1
end Tp
end Go.Proofs.Ytomfonilbenhbaa
