/-
  The walk of FnExpressionStringSplitsAtConcatenation: the print of two lists of alternatives one behind the other. Conditions: none beyond the statement's own.
-/
import Derived.Test.YtjneojglklbbfaaA4
namespace Go.Proofs.Ytjneojglklbbfaa
open Go.RowKit
set_option linter.unusedSimpArgs false
set_option linter.unusedVariables false
/-- The cells vs are slices that read as the first j lists of zss. -/
def AltAt {α : Type} (S : World → Option Addr → Nat → List α → Prop) (w : World) (zss : List (List α)) (j : Nat) (vs : List Value) : Prop :=
  vs.length = j ∧ ∀ i, i < j → ∃ Ai ni ci, vs[i]? = some (.slice Ai ni ci) ∧ S w Ai ni (zss.getD i [])
theorem AltAt.snoc {α : Type} {S : World → Option Addr → Nat → List α → Prop} {w : World} {zss : List (List α)} {j : Nat} {vs : List Value} (h : AltAt S w zss j vs) {A : Option Addr} {m c : Nat} (hs : S w A m (zss.getD j [])) : AltAt S w zss (j + 1) (vs ++ [.slice A m c]) := by
  refine ⟨by simp [h.1], fun i hi => ?_⟩
  rcases Nat.lt_or_ge i j with hij | hij
  · obtain ⟨Ai, ni, ci, h1, h2⟩ := h.2 i hij
    exact ⟨Ai, ni, ci, by rw [List.getElem?_append_left (by rw [h.1]; exact hij)]; exact h1, h2⟩
  · obtain rfl : i = j := by omega
    exact ⟨A, m, c, by rw [List.getElem?_append_right (by rw [h.1]; exact Nat.le_refl _), h.1]; simp, hs⟩
theorem AltAt.alts {α : Type} {S : World → Option Addr → Nat → List α → Prop} (hK : Kept S) {w w' : World} {g n : Nat} {t : TypeId} {zss : List (List α)} {vs : List Value} (h : AltAt S w zss n vs) (hb : Below w.heap.size w w') (hr : Row w' g t vs) (hl : zss.length = n) (hm : n ≤ maxLen) : Alts S w' (some ⟨g, 0, none⟩) n zss := by
  refine ⟨hl, hm, .inr ⟨g, 0, rfl, hr.lt, fun i hi => ?_⟩⟩
  obtain ⟨Ai, ni, ci, h1, h2⟩ := h.2 i hi
  exact ⟨Ai, ni, ci, by rw [Nat.zero_add]; exact hr.cell h1, hK _ _ _ _ _ h2 hb⟩
theorem getD_app_left {α : Type} (a b : List α) (d : α) {i : Nat} (h : i < a.length) : (a ++ b).getD i d = a.getD i d := by simp [List.getElem?_append_left h]
theorem getD_app_right {α : Type} (a b : List α) (d : α) (i : Nat) : (a ++ b).getD (a.length + i) d = b.getD i d := by
  rw [List.getD_eq_getElem?_getD, List.getElem?_append_right (by omega), Nat.add_sub_cancel_left, ← List.getD_eq_getElem?_getD]
namespace fnExpressionStringSplitsAtConcatenation
set_option maxHeartbeats 4000000 in
set_option maxRecDepth 100000 in
theorem walk (A0 : Option Addr) (n0 c0 : Nat) (z0 : List (List Spec)) (A1 : Option Addr) (n1 c1 : Nat) (z1 : List (List Spec)) (w : World) (hv : Alts Specs w A0 n0 z0) (hu : Alts Specs w A1 n1 z1) :
    Calls Try.prog 6 #[.slice A0 n0 c0, .slice A1 n1 c1] w fun e w' => e = .returned (.bool true) ∧ Below w.heap.size w w' := by
  have hm0 := hv.2.1
  have hm1 := hu.2.1
  have HV := Lib.hid hv
  have HU := Lib.hid hu
  have HL0 := Lib.hid hv.1
  have HL1 := Lib.hid hu.1
  clear hv hu
  obtain ⟨i0, hi, hz0, hz1, hz2⟩ := info_parts cloneAltsInfo
  go_enter Try.func6, Try.ntmps6
  go_wp2_with fail
  refine (zz A0 n0 c0 z0 A1 n1 c1 z1 _ HV.out HU.out).mono ?_
  rintro e w1 ⟨b, rfl, rfl, hb⟩
  unfold maxLen at hm0 hm1
  cases b
  · go_wp2_with fail
    go_ret
    exact ⟨rfl, Below.refl _ _⟩
  have hsum := hb rfl
  clear hb
  by_cases hs : n0 ≤ 4096 ∧ n1 ≤ 4096
  case neg =>
    go_wp2_with fail
    all_goals first | (exfalso; omega) | (go_ret; exact ⟨rfl, Below.refl _ _⟩)
  obtain ⟨hs0, hs1⟩ := hs
  go_wp2_with fail
  refine (counts A0 n0 c0 z0 _ HV.out (by omega)).mono ?_
  rintro e w1 ⟨b, rfl, rfl, hin0⟩
  cases b
  · go_wp2_with fail
    go_ret
    exact ⟨rfl, Below.refl _ _⟩
  have HI0 := Lib.hid (hin0 rfl); clear hin0
  go_wp2_with fail
  refine (counts A1 n1 c1 z1 _ HU.out (by omega)).mono ?_
  rintro e w1 ⟨b, rfl, rfl, hin1⟩
  cases b
  · go_wp2_with fail
    go_ret
    exact ⟨rfl, Below.refl _ _⟩
  have HI1 := Lib.hid (hin1 rfl); clear hin1
  go_wp2_with fail
  refine (altsBytes A0 n0 c0 z0 _ HV.out (by omega) hs0 HI0.out).mono ?_
  rintro e w1 ⟨r1, rfl, hr1, rfl⟩
  go_wp2_with fail
  refine (altsBytes A1 n1 c1 z1 _ HU.out (by omega) hs1 HI1.out).mono ?_
  rintro e w1 ⟨r2, rfl, hr2, rfl⟩
  by_cases hrr : r1 + r2 ≤ 1048576
  case neg =>
    go_wp2_with fail
    go_ret
    exact ⟨rfl, Below.refl _ _⟩
  have ht0 := tot_alts z0
  have ht1 := tot_alts z1
  have ht2 := tot_alts (z0 ++ z1)
  have hsA2 : sumA (z0 ++ z1) ≤ 1048576 := by rw [sumA_append]; omega
  rw [List.length_append] at ht2
  rw [HL0.out] at ht0 ht2 hsum
  rw [HL1.out] at ht1 ht2 hsum
  have hsz : ∀ (y : List (List Spec)), sumA y ≤ 1048576 → ∀ i k, ((y.getD i []).getD k zeroSpec).s.size ≤ 1048576 := fun y hy i k => by have h1 := sumS_get (y.getD i []) k; have h2 := sumA_get y i; omega
  have HS0 := Lib.hid (hsz z0 (by omega))
  have HS1 := Lib.hid (hsz z1 (by omega))
  have HS2 := Lib.hid (hsz (z0 ++ z1) hsA2)
  clear hsz
  have hj0 := PS.join_size (sep := ⟨#[32, 124, 32]⟩) (by decide) (z0.map altText)
  have hj1 := PS.join_size (sep := ⟨#[32, 124, 32]⟩) (by decide) (z1.map altText)
  have hj2 := PS.join_size (sep := ⟨#[32, 124, 32]⟩) (by decide) ((z0 ++ z1).map altText)
  have hja : (PS.join ⟨#[32, 124, 32]⟩ (z0.map altText)).size ≤ 20000000 := by omega
  have hjb : (PS.join ⟨#[32, 124, 32]⟩ (z1.map altText)).size ≤ 20000000 := by omega
  have hjw : (PS.join ⟨#[32, 124, 32]⟩ ((z0 ++ z1).map altText)).size ≤ 40000000 := by omega
  clear hj0 hj1 hj2
  have hcases : (n0 = 0 → PS.join ⟨#[32, 124, 32]⟩ ((z0 ++ z1).map altText) = PS.join ⟨#[32, 124, 32]⟩ (z1.map altText)) ∧ (n1 = 0 → PS.join ⟨#[32, 124, 32]⟩ ((z0 ++ z1).map altText) = PS.join ⟨#[32, 124, 32]⟩ (z0.map altText)) ∧
      (0 < n0 → 0 < n1 → PS.join ⟨#[32, 124, 32]⟩ ((z0 ++ z1).map altText) = PS.join ⟨#[32, 124, 32]⟩ (z0.map altText) ++ (⟨#[32, 124, 32]⟩ : ByteArray) ++ PS.join ⟨#[32, 124, 32]⟩ (z1.map altText)) := by
    refine ⟨fun h => ?_, fun h => ?_, fun h1 h2 => ?_⟩
    · rw [List.eq_nil_of_length_eq_zero (HL0.out.trans h), List.nil_append]
    · rw [List.eq_nil_of_length_eq_zero (HL1.out.trans h), List.append_nil]
    · rw [List.map_append]
      refine PS.join_append _ _ (fun e => ?_) (fun e => ?_)
      · have := congrArg List.length e; rw [List.length_map, HL0.out] at this; simp at this; omega
      · have := congrArg List.length e; rw [List.length_map, HL1.out] at this; simp at this; omega
  have HCA := Lib.hid hcases; clear hcases ht0 ht1 ht2
  go_wp2_with fail
  refine (cloneAlts A0 n0 c0 z0 _ HV.out (by omega) (fun i hi => Nat.le_trans (HI0.out i hi) (by omega))).mono ?_
  rintro e w2 ⟨A2, c2, rfl, hv2, hb2, -⟩
  go_wp2_with fail
  refine (cloneAlts A1 n1 c1 z1 _ (HU.out.later specs_kept hb2) (by omega) (fun i hi => Nat.le_trans (HI1.out i hi) (by omega))).mono ?_
  rintro e w3 ⟨A3, c3, rfl, hu3, hb3, -⟩
  have HV3 := Lib.hid (hv2.later specs_kept hb3)
  have HU3 := Lib.hid hu3
  have hbw3 := below_next hb3 hb2
  clear hv2 hu3 hb2 hb3
  go_wp2_with fail
  refine (expr_any A2 n0 c2 z0 _ HV3.out (by omega) (by omega) (fun i hi => Nat.le_trans (HI0.out i hi) (by omega)) HS0.out).mono ?_
  rintro e w4 ⟨q1, rfl, HQ1, hb4⟩
  go_wp2_with fail
  refine (HQ1.out _ (grown_refl _ _)).mono ?_
  rintro e w5 ⟨rfl, hb5⟩
  have hb35 := below_next hb5 hb4
  clear hb4 hb5 HQ1
  go_wp2_with fail
  refine (expr_any A3 n1 c3 z1 _ (HU3.out.later specs_kept hb35) (by omega) (by omega) (fun i hi => Nat.le_trans (HI1.out i hi) (by omega)) HS1.out).mono ?_
  rintro e w6 ⟨q2, rfl, HQ2, hb6⟩
  go_wp2_with fail
  refine (HQ2.out _ (grown_refl _ _)).mono ?_
  rintro e w7 ⟨rfl, hb7⟩
  have hb37 := below_next hb7 (below_next hb6 hb35)
  have HV7 := Lib.hid (HV3.out.later specs_kept hb37)
  have HU7 := Lib.hid (HU3.out.later specs_kept hb37)
  have hbw7 : Below w.heap.size w w7 := hbw3.trans (hb37.mono hbw3.size)
  clear hb6 hb7 HQ2 hb35 hb37 hbw3 HV3 HU3
  generalize PS.join ⟨#[32, 124, 32]⟩ (z0.map altText) = ja at HCA hja ⊢
  generalize PS.join ⟨#[32, 124, 32]⟩ (z1.map altText) = jb at HCA hjb ⊢
  obtain ⟨N, hN⟩ : ∃ N, N = n0 + n1 := ⟨_, rfl⟩
  have hNI : (n0 : Int) + (n1 : Int) = (N : Int) := by omega
  have HN := Lib.hid hN; clear hN
  have hNb : N ≤ 8192 := by have := HN.out; omega
  have HNI := Lib.hid hNI; clear hNI
  go_wp2_with (at_make; refine wpList_make_own _ rfl _ _ 59 rfl w7.heap.size 52 i0 _ 1 Try.underlying59 hi hz0 hz1 _ _ _ N rfl rfl HNI.out (by rw [hz2]; omega) (by unfold maxLen; omega) (Nat.le_refl _) ?_; intro w8 hown8 hg8)
  have hb8 : Below w7.heap.size w7 w8 := (Below.refl _ _).grown hg8 (Nat.le_refl _) (fun _ h => by cases h)
  clear hg8
  go_loopg [7, 8] n0 (fun k v i wr => ∃ (j : Nat) (vs : List Value), k = n0 - j ∧ j ≤ n0 ∧ i = .int .i64 j ∧ v = .slice (some ⟨w7.heap.size, 0, none⟩) j N ∧ wr.ownsRow w7.heap.size 52 1 (.slice (some ⟨w7.heap.size, 0, none⟩) j N) j vs ∧ Hid (AltAt Specs w7 (z0 ++ z1) j vs) ∧ Below w7.heap.size w7 wr)
  case atStart => exact ⟨0, [], rfl, Nat.zero_le _, rfl, rfl, hown8, Lib.hid ⟨rfl, fun i hi => absurd hi (Nat.not_lt_zero _)⟩, hb8⟩
  case round =>
    obtain ⟨j, vs, hk, hj, rfl, rfl, hown, HA, hbel⟩ := hrel
    have KK := Lib.hid hk; clear hk hb8 hown8
    have hsz := hbel.size
    by_cases hlt : j < n0
    · rcases HV7.out.split with h | ⟨b, off, rfl, hc⟩
      · exfalso; omega
      obtain ⟨Ai, ni, ci, hcj, hsi⟩ := hc.out j hlt
      have hcj' := (hbel.cell (p := ⟨b, off + j, none⟩) (World.block_lt_of_cell? _ _ hcj)).trans hcj
      have HA2 : Hid (AltAt Specs w7 (z0 ++ z1) (j + 1) (vs ++ [.slice Ai ni ci])) := HA.out.snoc (by rw [getD_app_left _ _ _ (by rw [HL0.out]; exact hlt)]; exact hsi)
      clear hc hsi hcj
      have hi0 : (0 : Int) ≤ (j : Int) := by omega
      have hi1 : (j : Int) < (n0 : Int) := by omega
      have hjN : j + 1 ≤ N := by have := HN.out; omega
      go_wp2_with (at_builtin; refine wpList_append_fits _ rfl _ _ 59 rfl w7.heap.size 52 i0 1 Try.underlying59 hi hz1 w7.heap.size j N vs rfl (hown.alloc _) ⟨wr.heap.size, 0, none⟩ 1 1 [.slice Ai ni ci] rfl rfl one_news (by intro u hu; simp at hu; subst hu; rfl) (by omega) ?_; intro w9 hown9 hg9)
      have hb9 : Below w7.heap.size w7 w9 := (hbel.alloc hsz _).grown hg9 (by simp; omega) (fun k hk => by injection hk with hk; omega)
      clear hg9 hown hcj'
      go_wp2_with fail
      go_roundg (n0 - (j + 1))
      case measure => rw [KK.out]; omega
      case rel => exact ⟨j + 1, _, rfl, by omega, by go_num, rfl, hown9, HA2, hb9⟩
    · obtain rfl : n0 = j := by omega
      clear hlt
      go_wp2_with fail
      go_loopg [7, 9] n1 (fun k v i wq => ∃ (j m : Nat) (vs : List Value), k = n1 - j ∧ j ≤ n1 ∧ i = .int .i64 j ∧ v = .slice (some ⟨w7.heap.size, 0, none⟩) m N ∧ Hid (m = n0 + j) ∧ wq.ownsRow w7.heap.size 52 1 (.slice (some ⟨w7.heap.size, 0, none⟩) m N) m vs ∧ Hid (AltAt Specs w7 (z0 ++ z1) m vs) ∧ Below w7.heap.size w7 wq)
      case atStart => exact ⟨0, n0, vs, rfl, Nat.zero_le _, rfl, rfl, Lib.hid rfl, hown, HA, hbel⟩
      case round =>
        obtain ⟨j, m, vs2, hk, hj, rfl, rfl, HM, hown2, HA2, hbel2⟩ := hrel
        have KK := Lib.hid hk; clear hk hown hbel hsz HA
        have hsz := hbel2.size
        by_cases hlt : j < n1
        · rcases HU7.out.split with h | ⟨b, off, rfl, hc⟩
          · exfalso; omega
          obtain ⟨Ai, ni, ci, hcj, hsi⟩ := hc.out j hlt
          have hcj' := (hbel2.cell (p := ⟨b, off + j, none⟩) (World.block_lt_of_cell? _ _ hcj)).trans hcj
          have HA3 : Hid (AltAt Specs w7 (z0 ++ z1) (m + 1) (vs2 ++ [.slice Ai ni ci])) := HA2.out.snoc (by have h := getD_app_right z0 z1 [] j; rw [HL0.out, ← HM.out] at h; rw [h]; exact hsi)
          clear hc hsi hcj
          have hi0 : (0 : Int) ≤ (j : Int) := by omega
          have hi1 : (j : Int) < (n1 : Int) := by omega
          have hmN : m + 1 ≤ N := by have := HN.out; have := HM.out; omega
          go_wp2_with (at_builtin; refine wpList_append_fits _ rfl _ _ 59 rfl w7.heap.size 52 i0 1 Try.underlying59 hi hz1 w7.heap.size m N vs2 rfl (hown2.alloc _) ⟨wr.heap.size, 0, none⟩ 1 1 [.slice Ai ni ci] rfl rfl one_news (by intro u hu; simp at hu; subst hu; rfl) (by omega) ?_; intro w9 hown9 hg9)
          have hb9 : Below w7.heap.size w7 w9 := (hbel2.alloc hsz _).grown hg9 (by simp; omega) (fun k hk => by injection hk with hk; omega)
          clear hg9 hown2 hcj'
          go_wp2_with fail
          go_roundg (n1 - (j + 1))
          case measure => rw [KK.out]; omega
          case rel => exact ⟨j + 1, m + 1, _, rfl, by omega, by go_num, rfl, Lib.hid (by rw [HM.out]; omega), hown9, HA3, hb9⟩
        · obtain rfl : n1 = j := by omega
          obtain rfl : m = N := by rw [HM.out, HN.out]
          have HSP := Lib.hid (HA2.out.alts specs_kept hbel2 (Row.of_own hown2) (by rw [List.length_append, HL0.out, HL1.out]; exact HM.out.symm) (by unfold maxLen; omega))
          have hin2 : ∀ i, i < m → ((z0 ++ z1).getD i []).length ≤ 8192 := by
            intro i hi
            rcases Nat.lt_or_ge i n0 with g | g
            · rw [getD_app_left _ _ _ (by rw [HL0.out]; exact g)]; have := HI0.out i g; omega
            · have h := getD_app_right z0 z1 [] (i - n0)
              rw [HL0.out, show n0 + (i - n0) = i by omega] at h
              rw [h]
              have h1 := HM.out
              have := HI1.out (i - n0) (by omega)
              omega
          have HIN2 := Lib.hid hin2
          clear hin2 hlt hown2
          go_wp2_with fail
          refine (expr_any _ m _ (z0 ++ z1) _ HSP.out (by omega) (by omega) HIN2.out HS2.out).mono ?_
          rintro e w10 ⟨q3, rfl, HQ3, hb10⟩
          go_wp2_with fail
          refine (HQ3.out _ (grown_refl _ _)).mono ?_
          rintro e w11 ⟨rfl, hb11⟩
          have hbF : Below w.heap.size w w11 := by
            have h1 := below_next hb11 (below_next hb10 hbel2)
            exact hbw7.trans (h1.mono hbw7.size)
          clear hb10 hb11 HQ3 HSP hbel2 hsz HM HN HNI
          generalize PS.join ⟨#[32, 124, 32]⟩ ((z0 ++ z1).map altText) = jw at HCA hjw ⊢
          have es : ((⟨#[32, 124, 32]⟩ : ByteArray)).size = 3 := rfl
          by_cases e0 : n0 = 0
          · have hr := HCA.out.1 e0
            subst e0
            subst hr
            go_wp2_with fail
            go_ret
            exact ⟨rfl, hbF⟩
          · have e0' : ((n0 : Int) == 0) = false := by simpa using e0
            by_cases e1 : n1 = 0
            · have hr := HCA.out.2.1 e1
              subst e1
              subst hr
              clear e0
              go_wp2_with fail
              go_ret
              exact ⟨rfl, hbF⟩
            · have e1' : ((n1 : Int) == 0) = false := by simpa using e1
              have hr := HCA.out.2.2 (by omega) (by omega)
              clear e0 e1
              have hsA : (ja ++ (⟨#[32, 124, 32]⟩ : ByteArray)).size = ja.size + 3 := PS.size_app _ _
              go_wp2_with fail
              go_ret
              exact ⟨rfl, hbF⟩
end fnExpressionStringSplitsAtConcatenation
end Go.Proofs.Ytjneojglklbbfaa
