/-
  The walk of FnTop: the peeking lexer and ConsumeAll agree with the naive index machine. Conditions: none beyond the statement's own.
-/
import Derived.Test.YtomfonilbenhbaaYD
namespace Go.Proofs.Ytomfonilbenhbaa
open Go.RowKit
set_option linter.unusedSimpArgs false
set_option linter.unusedVariables false
namespace Tp
open Up
/-- A slice that came in is no longer than its room. -/
theorem caps_of {H : Type} {enc : TypeId × Value → H} {P : Program} {w : World} {t e : TypeId} {k : IntKind} {A : Option Addr} {n c : Nat} {d : DataW H} {p : List MemPlace} (ht : P.underlying t = some (.slice e)) (he : P.underlying e = some (.int k)) (hc : P.cellsOf e = 1)
    (h : DataW.Trod enc P w 0 (fun _ => true) true t (.slice A n c) d p) : n ≤ c ∧ c ≤ maxLen := by
  obtain ⟨fuel, hf⟩ := h
  rcases ChangeShapes.open_ints ht he hc hf with ⟨hcs, _⟩ | ⟨x, l, c', zs, hcs, _, hl, hm, hz, _, hcell, hwz⟩
  · simp [Value.cells] at hcs
    obtain ⟨rfl, rfl, rfl⟩ := hcs
    exact ⟨Nat.le_refl _, Nat.zero_le _⟩
  · simp [Value.cells] at hcs
    obtain ⟨rfl, rfl, rfl⟩ := hcs
    exact ⟨hl, hm⟩
/-- Three bytes in a block. -/
def Hdr (w : World) (b : Nat) : Prop := ∃ cs, Blk w b 59 cs ∧ cs.size = 3 ∧ ∀ i, i < 3 → ∃ h : Nat, h < 256 ∧ cs[i]? = some (.int .u8 (h : Int))
theorem Hdr.new (w : World) : Hdr (w.alloc (.cells #[.int .u8 0, .int .u8 0, .int .u8 0] 59)) w.heap.size := by
  refine ⟨_, Blk.new w _ _, rfl, fun i hi => ⟨0, by omega, ?_⟩⟩
  match i, hi with
  | 0, _ | 1, _ | 2, _ => rfl
theorem Hdr.cell {w : World} {b : Nat} (h : Hdr w b) {i : Nat} (hi : i < 3) : ∃ x, w.cell? ⟨b, i, none⟩ = some x := by
  obtain ⟨cs, h1, -, h2⟩ := h
  obtain ⟨x, -, hx⟩ := h2 i hi
  exact ⟨_, (h1.cell i).trans hx⟩
theorem Hdr.frozen {w : World} {b : Nat} (h : Hdr w b) (i : Nat) : w.frozen? ⟨b, i, none⟩ = false := by
  obtain ⟨cs, h1, -⟩ := h
  exact h1.frozen i
theorem Hdr.set {w : World} {b : Nat} (h : Hdr w b) {i : Nat} (hi : i < 3) (x : Nat) (hx : x < 256) : Hdr (w.setCell ⟨b, i, none⟩ (.int .u8 (x : Int))) b := by
  obtain ⟨cs, h1, h2, h3⟩ := h
  refine ⟨_, h1.set i _, by simpa using h2, fun k hk => ?_⟩
  rw [Array.getElem?_setIfInBounds]
  by_cases e : i = k
  · rw [if_pos e, if_pos (by omega)]; exact ⟨x, hx, rfl⟩
  · rw [if_neg e]; exact h3 k hk
theorem Hdr.open {w : World} {b : Nat} (h : Hdr w b) : ∃ h0 h1 h2 : Nat, h0 < 256 ∧ h1 < 256 ∧ h2 < 256 ∧ Blk w b 59 #[.int .u8 (h0 : Int), .int .u8 (h1 : Int), .int .u8 (h2 : Int)] := by
  obtain ⟨cs, h1, h2, h3⟩ := h
  obtain ⟨x0, e0, f0⟩ := h3 0 (by omega)
  obtain ⟨x1, e1, f1⟩ := h3 1 (by omega)
  obtain ⟨x2, e2, f2⟩ := h3 2 (by omega)
  refine ⟨x0, x1, x2, e0, e1, e2, ?_⟩
  have : cs = #[.int .u8 (x0 : Int), .int .u8 (x1 : Int), .int .u8 (x2 : Int)] := by
    apply Array.ext_getElem?
    intro i
    match i with
    | 0 => exact f0
    | 1 => exact f1
    | 2 => exact f2
    | i + 3 => rw [Array.getElem?_eq_none (by omega), Array.getElem?_eq_none (by simp)]
  rwa [this] at h1
theorem min_nat (a b : Nat) (w : World) : Calls Try.prog 26 #[.int .i64 (a : Int), .int .i64 (b : Int)] w fun e w' => e = .returned (.int .i64 ((min a b : Nat) : Int)) ∧ w = w' :=
  (min_any a b w).mono fun e w' ⟨h1, h2⟩ => ⟨by
    rw [h1]
    by_cases h : (a : Int) < (b : Int)
    · rw [if_pos h, Nat.min_eq_left (by omega)]
    · rw [if_neg h, Nat.min_eq_right (by omega)], h2⟩
end Tp
namespace fnTop
open Up Tp
set_option maxHeartbeats 4000000 in
set_option maxRecDepth 1000000 in
theorem walk (A0 : Option Addr) (n0 c0 : Nat) (z0 : List Int) (w : World) (ht : Ints .u8 w A0 n0 z0) (hcap : n0 ≤ c0 ∧ c0 ≤ maxLen) :
    Calls Try.prog 5 #[.slice A0 n0 c0] w fun e w' => e = .returned (.bool true) ∧ Below w.heap.size w w' := by
  have HT := Lib.hid ht
  have hcc := hcap.2
  unfold maxLen at hcc
  clear ht
  by_cases hs : n0 ≤ 1048576
  case neg =>
    go_enter Try.func5, Try.ntmps5
    go_wp2_with fail
    go_ret
    exact ⟨rfl, Below.refl _ _⟩
  have hH0 := Hdr.new w
  have hb0 : Below w.heap.size w (w.alloc (.cells #[.int .u8 0, .int .u8 0, .int .u8 0] 59)) := (Below.refl _ _).alloc (Nat.le_refl _) _
  go_enter Try.func5, Try.ntmps5
  go_wp2_with fail
  go_loopg [4] 3 (fun k i wr => ∃ j : Nat, k = 3 - j ∧ j ≤ 3 ∧ i = .int .i64 j ∧ Hdr wr w.heap.size ∧ Below w.heap.size w wr)
  case atStart => exact ⟨0, rfl, by omega, rfl, hH0, hb0⟩
  case round =>
    have HQ : Hid (∀ (T : Array Value) (w' : World), T.getD 2 undef = .bool true → Below w.heap.size w w' → (bodyPost Try.prog Try.f5 fun e w' => e = .returned (.bool true) ∧ Below w.heap.size w w') .ret ⟨T, []⟩ w') := fun T w' h hb => bodyPost_ret (v := .bool true) (by simp [results, Try.results5]; simpa using h) rfl ⟨rfl, hb⟩
    clear hH0 hb0
    obtain ⟨j, hk, hj, rfl, hH, hb⟩ := hrel
    have KK := Lib.hid hk; clear hk
    by_cases hlt : j < 3 ∧ j < n0
    · obtain ⟨hlt, hln⟩ := hlt
      rcases (HT.out.later hb).split with h | ⟨b, off, rfl, hc⟩
      · exfalso; omega
      have hcj := hc.out j hln
      have hwf := HT.out.wf hln
      have hr : 0 ≤ z0.getD j 0 ∧ z0.getD j 0 ≤ 255 := by
        simp [Lit.wf, IntKind.min, IntKind.max, IntKind.signed, IntKind.bits] at hwf
        simpa using hwf
      obtain ⟨B, hB⟩ : ∃ B : Nat, z0.getD j 0 = (B : Int) := ⟨(z0.getD j 0).toNat, by omega⟩
      rw [hB] at hcj hr
      obtain ⟨x, hx⟩ := hH.cell hlt
      have hf := hH.frozen j
      have hj0 : (0 : Int) ≤ (j : Int) := by omega
      have hj1 : (j : Int) < 3 := by omega
      have hj2 : (j : Int) < (n0 : Int) := by omega
      clear hwf hc hB
      go_wp2_with fail
      go_roundg (3 - (j + 1))
      case measure => rw [KK.out]; omega
      case rel => exact ⟨j + 1, rfl, by omega, by go_num, hH.set hlt B (by omega), hb.setCell (p := ⟨w.heap.size, j, none⟩) (Nat.le_refl _) _⟩
    · obtain ⟨h0, h1, h2, g0, g1, g2, hHB⟩ := hH.open
      have x1 := hHB.cell 1
      simp at x1
      obtain ⟨k3, hk3⟩ : ∃ x, x = min 3 n0 := ⟨_, rfl⟩
      have hk3n : k3 ≤ n0 := by omega
      have hmin := min_nat 3 n0 wr
      rw [← hk3] at hmin
      have hi0 : (0 : Int) ≤ (k3 : Int) := by omega
      have hi1 : (k3 : Int) ≤ (n0 : Int) := by omega
      have HMIN := Lib.hid hmin
      have HD := Lib.hid (ints_drop HT.out hk3n hcap.1)
      have HNLT := Lib.hid hlt
      clear hlt hmin hH hk3
      by_cases hj3 : j < 3
      · have hjn : decide (j < n0) = false := by
          rw [decide_eq_false_iff_not]; intro g; exact HNLT.out ⟨hj3, g⟩
        by_cases hck : c0 = k3
        all_goals
          go_upto_region 10 with (go_at_call 26; refine HMIN.out.mono ?_; rintro e w1 ⟨rfl, rfl⟩)
          clear x1
          rename_i K2 hK2 K1 hK1
          have HK2 := Lib.hid hK2
          clear hK2
          have hI := HD.out
          first | rw [if_pos hck] at hI | rw [if_neg hck] at hI
          try simp only [Nat.mul_one] at hI
          have HI := Lib.hid hI
          clear hI
          by_cases hlt : n0 - k3 < h1
          · have hlti : ((n0 - k3 : Nat) : Int) < (h1 : Int) := by omega
            go_wp2_with fail
            refine HK2.out _ _ ?_
            exact rest12_any w _ w.heap.size (n0 - k3) (n0 - k3) _ _ (z0.drop k3) (h0 : Int) (h1 : Int) (h2 : Int) _ HQ hHB (by omega) (by omega) HI.out (by omega) ⟨by omega, by unfold maxLen; omega⟩ (Nat.le_refl _) (by omega) hb (Nat.le_refl _) _ _ _ _ _ _ _ _ _ _ _ _ _ _ _ _ _ _ _ _ _ _ _ _ _ _ _ _ _ _ _ _ _ _ _ _
          · have hlti : decide (n0 - k3 < h1) = false := by rw [decide_eq_false_iff_not]; exact hlt
            go_wp2_with fail
            refine HK2.out _ _ ?_
            exact rest12_any w _ w.heap.size h1 (n0 - k3) _ _ (z0.drop k3) (h0 : Int) (h1 : Int) (h2 : Int) _ HQ hHB (by omega) (by omega) HI.out (by omega) ⟨by omega, by unfold maxLen; omega⟩ (by omega) (by omega) hb (Nat.le_refl _) _ _ _ _ _ _ _ _ _ _ _ _ _ _ _ _ _ _ _ _ _ _ _ _ _ _ _ _ _ _ _ _ _ _ _ _
      · obtain rfl : j = 3 := by omega
        clear hj3
        by_cases hck : c0 = k3
        all_goals
          go_upto_region 10 with (go_at_call 26; refine HMIN.out.mono ?_; rintro e w1 ⟨rfl, rfl⟩)
          clear x1
          rename_i K2 hK2 K1 hK1
          have HK2 := Lib.hid hK2
          clear hK2
          have hI := HD.out
          first | rw [if_pos hck] at hI | rw [if_neg hck] at hI
          try simp only [Nat.mul_one] at hI
          have HI := Lib.hid hI
          clear hI
          by_cases hlt : n0 - k3 < h1
          · have hlti : ((n0 - k3 : Nat) : Int) < (h1 : Int) := by omega
            go_wp2_with fail
            refine HK2.out _ _ ?_
            exact rest12_any w _ w.heap.size (n0 - k3) (n0 - k3) _ _ (z0.drop k3) (h0 : Int) (h1 : Int) (h2 : Int) _ HQ hHB (by omega) (by omega) HI.out (by omega) ⟨by omega, by unfold maxLen; omega⟩ (Nat.le_refl _) (by omega) hb (Nat.le_refl _) _ _ _ _ _ _ _ _ _ _ _ _ _ _ _ _ _ _ _ _ _ _ _ _ _ _ _ _ _ _ _ _ _ _ _ _
          · have hlti : decide (n0 - k3 < h1) = false := by rw [decide_eq_false_iff_not]; exact hlt
            go_wp2_with fail
            refine HK2.out _ _ ?_
            exact rest12_any w _ w.heap.size h1 (n0 - k3) _ _ (z0.drop k3) (h0 : Int) (h1 : Int) (h2 : Int) _ HQ hHB (by omega) (by omega) HI.out (by omega) ⟨by omega, by unfold maxLen; omega⟩ (by omega) (by omega) hb (Nat.le_refl _) _ _ _ _ _ _ _ _ _ _ _ _ _ _ _ _ _ _ _ _ _ _ _ _ _ _ _ _ _ _ _ _ _ _ _ _
end fnTop
end Go.Proofs.Ytomfonilbenhbaa
