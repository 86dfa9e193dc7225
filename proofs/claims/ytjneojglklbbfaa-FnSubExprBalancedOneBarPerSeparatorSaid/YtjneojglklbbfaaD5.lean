/-
  The walk of FnSequenceStringSplitsAtConcatenation: the print of two lists of terms one behind the other. Conditions: none beyond the statement's own.
-/
import Derived.Test.YtjneojglklbbfaaS9
import Derived.Deep.AppendLies
namespace Go.Proofs.Ytjneojglklbbfaa
open Go.RowKit
set_option linter.unusedSimpArgs false
set_option linter.unusedVariables false
def sumS : List Spec → Nat
  | [] => 0
  | x :: r => x.s.size + sumS r
theorem sumS_append (xs ys : List Spec) : sumS (xs ++ ys) = sumS xs + sumS ys := by
  induction xs with
  | nil => simp [sumS]
  | cons x r ih => simp only [List.cons_append, sumS, ih]; omega
theorem sumS_snoc (xs : List Spec) (i : Nat) (h : i < xs.length) : sumS (xs.take (i + 1)) = sumS (xs.take i) + (xs.getD i zeroSpec).s.size := by
  rw [take_snocS xs i h, sumS_append]; simp [sumS]
theorem sumS_take (xs : List Spec) (i : Nat) : sumS (xs.take i) ≤ sumS xs := by
  have := sumS_append (xs.take i) (xs.drop i)
  rw [List.take_append_drop] at this
  omega
theorem sumS_get (xs : List Spec) (i : Nat) : (xs.getD i zeroSpec).s.size ≤ sumS xs := by
  rcases Nat.lt_or_ge i xs.length with h | h
  · have h1 := sumS_take xs (i + 1)
    rw [sumS_snoc xs i h] at h1
    omega
  · rw [List.getD_eq_getElem?_getD, List.getElem?_eq_none h]
    exact Nat.zero_le _
theorem tot_text (z : List Spec) : PS.tot (z.map Spec.text) ≤ sumS z + 8 * z.length := by
  induction z with
  | nil => simp [PS.tot]
  | cons x r ih =>
    have h1 := specText_size x.s
    have h2 := leafText_size (x.k % 3) (specText x.s)
    have h3 := PS.repT_size x.r
    have h4 : x.text.size = (leafText (x.k % 3) (specText x.s)).size + (PS.repT x.r).size := PS.size_app _ _
    simp only [List.map_cons, PS.tot, sumS, List.length_cons]
    omega
namespace fnSequenceStringSplitsAtConcatenation
def ZZPost (w : World) (z y : List Spec) (e : Ending) (w' : World) : Prop := ∃ b, e = .returned (.bool b) ∧ w = w' ∧ (b = true → sumS z + sumS y ≤ 1048576)
set_option maxHeartbeats 1000000 in
set_option maxRecDepth 100000 in
theorem zz (A1 : Option Addr) (n1 c1 : Nat) (z1 : List Spec) (A2 : Option Addr) (n2 c2 : Nat) (z2 : List Spec) (w : World) (hv : Specs w A1 n1 z1) (hu : Specs w A2 n2 z2) : Calls Try.prog 22 #[.slice A1 n1 c1, .slice A2 n2 c2] w (ZZPost w z1 z2) := by
  have h1 := hv.2.1
  have h2 := hu.2.1
  have HL := Lib.hid hv.1
  have HL2 := Lib.hid hu.1
  have HV := Lib.hid hv
  have HU := Lib.hid hu
  unfold maxLen at h1 h2
  clear hv hu
  go_enter Try.func22, Try.ntmps22
  go_wp2_with fail
  all_goals try (go_ret; exact ⟨_, rfl, rfl, fun h => Bool.noConfusion h⟩)
  go_loopg [4, 5, 6] n1 (fun k u z i wr => ∃ j m : Nat, k = n1 - j ∧ j ≤ n1 ∧ m ≤ 1048576 ∧ z = .int .i64 m ∧ i = .int .i64 j ∧ wr = w ∧ u = .bool false ∧ Hid (m = n1 + sumS (z1.take j)))
  case atStart => exact ⟨0, n1, rfl, Nat.zero_le _, by omega, rfl, rfl, rfl, rfl, Lib.hid rfl⟩
  case round =>
    obtain ⟨j, m, hk, hj, hm, rfl, rfl, rfl, rfl, HM⟩ := hrel
    have KK := Lib.hid hk; clear hk
    by_cases hlt : j < n1
    · rcases HV.out.split with h | ⟨b, off, rfl, hc⟩
      · exfalso; omega
      obtain ⟨-, hcj, -⟩ := hc.out j hlt
      have hsj := (HV.out.okAt j).2.1
      unfold maxLen at hsj
      have HS := Lib.hid (sumS_snoc z1 j (by rw [HL.out]; exact hlt))
      clear hc
      generalize (z1.getD j zeroSpec).s = sj at hcj hsj HS
      have hi0 : (0 : Int) ≤ (j : Int) := by omega
      have hi1 : (j : Int) < (n1 : Int) := by omega
      go_wp2_with fail
      all_goals first
        | (go_ret; exact ⟨_, rfl, rfl, fun h => Bool.noConfusion h⟩)
        | (go_roundg (n1 - (j + 1))
           case measure => rw [KK.out]; omega
           case rel => exact ⟨j + 1, m + sj.size, rfl, by omega, by omega, by go_num, by go_num, rfl, rfl, Lib.hid (by rw [HS.out, HM.out]; omega)⟩)
    · have hfin : z1.take j = z1 := List.take_of_length_le (by rw [HL.out]; omega)
      have hmm := HM.out
      rw [hfin] at hmm
      have HMM := Lib.hid hmm
      clear hmm hfin HM
      go_wp2_with fail
      all_goals try (go_ret; exact ⟨_, rfl, rfl, fun h => Bool.noConfusion h⟩)
      obtain ⟨m2, hm2⟩ : ∃ m2, m2 = m + n2 := ⟨_, rfl⟩
      have hm3 : m2 ≤ 1048576 := by omega
      rw [show (m : Int) + (n2 : Int) = (m2 : Int) by omega]
      have HM2 := Lib.hid hm2; clear hm2
      go_loopg [4, 5, 7] n2 (fun k u z i wq => ∃ j m : Nat, k = n2 - j ∧ j ≤ n2 ∧ m ≤ 1048576 ∧ z = .int .i64 m ∧ i = .int .i64 j ∧ wq = wr ∧ u = .bool false ∧ Hid (m = m2 + sumS (z2.take j)))
      case atStart => exact ⟨0, m2, rfl, Nat.zero_le _, by omega, rfl, rfl, rfl, rfl, Lib.hid rfl⟩
      case round =>
        obtain ⟨j, m3, hk, hj, hm, rfl, rfl, rfl, rfl, HM⟩ := hrel
        have KK := Lib.hid hk; clear hk
        by_cases hlt : j < n2
        · rcases HU.out.split with h | ⟨b, off, rfl, hc⟩
          · exfalso; omega
          obtain ⟨-, hcj, -⟩ := hc.out j hlt
          have hsj := (HU.out.okAt j).2.1
          unfold maxLen at hsj
          have HS := Lib.hid (sumS_snoc z2 j (by rw [HL2.out]; exact hlt))
          clear hc
          generalize (z2.getD j zeroSpec).s = sj at hcj hsj HS
          have hi0 : (0 : Int) ≤ (j : Int) := by omega
          have hi1 : (j : Int) < (n2 : Int) := by omega
          go_wp2_with fail
          all_goals first
            | (go_ret; exact ⟨_, rfl, rfl, fun h => Bool.noConfusion h⟩)
            | (go_roundg (n2 - (j + 1))
               case measure => rw [KK.out]; omega
               case rel => exact ⟨j + 1, m3 + sj.size, rfl, by omega, by omega, by go_num, by go_num, rfl, rfl, Lib.hid (by rw [HS.out, HM.out]; omega)⟩)
        · have hfin : z2.take j = z2 := List.take_of_length_le (by rw [HL2.out]; omega)
          have hmm := HM.out
          rw [hfin] at hmm
          have HMM3 := Lib.hid hmm
          clear hmm hfin HM
          go_wp2_with fail
          go_ret
          exact ⟨_, rfl, rfl, fun _ => by have a := HMM.out; have b := HM2.out; have c := HMM3.out; omega⟩
/-- A count between 0 and the bound's next. -/
def Count (w : World) (e : Ending) (w' : World) : Prop := ∃ r : Nat, e = .returned (.int .i64 r) ∧ r ≤ 1048577 ∧ w = w'
set_option maxRecDepth 100000 in
theorem specBytes (A1 : Option Addr) (n1 c1 : Nat) (z1 : List Spec) (w : World) (hv : Specs w A1 n1 z1) (hs : sumS z1 ≤ 1048576) (h1 : n1 ≤ 4096) : Calls Try.prog 23 #[.slice A1 n1 c1] w (Count w) := by
  have HV := Lib.hid hv
  clear hv
  go_enter Try.func23, Try.ntmps23
  go_wp2_with fail
  go_loopg [2, 3, 4] n1 (fun k u z i wr => ∃ j m : Nat, k = n1 - j ∧ j ≤ n1 ∧ m ≤ 1048576 ∧ z = .int .i64 m ∧ i = .int .i64 j ∧ wr = w ∧ u = .int .i64 0)
  case atStart => exact ⟨0, 0, rfl, Nat.zero_le _, by omega, rfl, rfl, rfl, rfl⟩
  case round =>
    obtain ⟨j, m, hk, hj, hm, rfl, rfl, rfl, rfl⟩ := hrel
    have KK := Lib.hid hk; clear hk
    by_cases hlt : j < n1
    · rcases HV.out.split with h | ⟨b, off, rfl, hc⟩
      · exfalso; omega
      obtain ⟨-, hcj, -⟩ := hc.out j hlt
      have hsj := Nat.le_trans (sumS_get z1 j) hs
      clear hc
      generalize (z1.getD j zeroSpec).s = sj at hcj hsj
      have hi0 : (0 : Int) ≤ (j : Int) := by omega
      have hi1 : (j : Int) < (n1 : Int) := by omega
      go_wp2_with fail
      all_goals first
        | (go_ret; exact ⟨1048577, rfl, by omega, rfl⟩)
        | (go_roundg (n1 - (j + 1))
           case measure => rw [KK.out]; omega
           case rel => exact ⟨j + 1, m + (32 + sj.size), rfl, by omega, by omega, by go_num, by go_num, rfl, rfl⟩)
    · go_wp2_with fail
      all_goals (go_ret; exact ⟨m, rfl, by omega, rfl⟩)
theorem news3 {w : World} {x : Spec} {t : TypeId} : ∀ (j : Nat) (u : Value), x.cells[j]? = some u → (w.alloc (.cells #[.int .u8 x.k, .string x.s, .int .u8 x.r] t)).cell? ((⟨w.heap.size, 0, none⟩ : Addr).add j) = some u :=
  World.news_of_block (heap_alloc_new _ _)
theorem spec_one (x : Spec) : ∀ u ∈ x.cells, u.oneCell' = true := by
  intro u hu
  simp only [Spec.cells, List.mem_cons, List.not_mem_nil, or_false] at hu
  rcases hu with rfl | rfl | rfl <;> rfl
set_option maxHeartbeats 4000000 in
set_option maxRecDepth 100000 in
theorem walk (A0 : Option Addr) (n0 c0 : Nat) (z0 : List Spec) (A1 : Option Addr) (n1 c1 : Nat) (z1 : List Spec) (w : World) (hv : Specs w A0 n0 z0) (hu : Specs w A1 n1 z1) :
    Calls Try.prog 5 #[.slice A0 n0 c0, .slice A1 n1 c1] w fun e w' => e = .returned (.bool true) ∧ Below w.heap.size w w' := by
  have hm0 := hv.2.1
  have hm1 := hu.2.1
  have HV := Lib.hid hv
  have HU := Lib.hid hu
  have HL0 := Lib.hid hv.1
  have HL1 := Lib.hid hu.1
  have HK0 := Lib.hid hv.2.2.1
  have HK1 := Lib.hid hu.2.2.1
  clear hv hu
  obtain ⟨i0, hi, hz0, hz1, hz2⟩ := info_parts specInfo
  go_enter Try.func5, Try.ntmps5
  go_wp2_with fail
  refine (zz A0 n0 c0 z0 A1 n1 c1 z1 _ HV.out HU.out).mono ?_
  rintro e w1 ⟨b, rfl, rfl, hb⟩
  unfold maxLen at hm0 hm1
  cases b
  · go_wp2_with fail
    go_ret
    exact ⟨rfl, Below.refl _ _⟩
  have hsum := hb rfl
  clear hb
  by_cases hs : n0 ≤ 4096 ∧ n1 ≤ 4096
  case neg =>
    go_wp2_with fail
    all_goals first | (exfalso; omega) | (go_ret; exact ⟨rfl, Below.refl _ _⟩)
  obtain ⟨hs0, hs1⟩ := hs
  go_wp2_with fail
  refine (specBytes A0 n0 c0 z0 _ HV.out (by omega) hs0).mono ?_
  rintro e w1 ⟨r1, rfl, hr1, rfl⟩
  go_wp2_with fail
  refine (specBytes A1 n1 c1 z1 _ HU.out (by omega) hs1).mono ?_
  rintro e w1 ⟨r2, rfl, hr2, rfl⟩
  by_cases hrr : r1 + r2 ≤ 1048576
  case neg =>
    go_wp2_with fail
    go_ret
    exact ⟨rfl, Below.refl _ _⟩
  have ht0 := tot_text z0
  have ht1 := tot_text z1
  have ht2 := tot_text (z0 ++ z1)
  rw [sumS_append, List.length_append] at ht2
  rw [HL0.out] at ht0 ht2
  rw [HL1.out] at ht1 ht2
  have hg0 : ∀ i, (z0.getD i zeroSpec).s.size ≤ 1048576 := fun i => by have := sumS_get z0 i; omega
  have hg1 : ∀ i, (z1.getD i zeroSpec).s.size ≤ 1048576 := fun i => by have := sumS_get z1 i; omega
  have hg2 : ∀ i, ((z0 ++ z1).getD i zeroSpec).s.size ≤ 1048576 := fun i => by have := sumS_get (z0 ++ z1) i; rw [sumS_append] at this; omega
  have HS0 := Lib.hid hg0; clear hg0
  have HS1 := Lib.hid hg1; clear hg1
  have HS2 := Lib.hid hg2; clear hg2
  have hj0 := PS.join_size (sep := ⟨#[32]⟩) (by decide) (z0.map Spec.text)
  have hj1 := PS.join_size (sep := ⟨#[32]⟩) (by decide) (z1.map Spec.text)
  have hj2 := PS.join_size (sep := ⟨#[32]⟩) (by decide) ((z0 ++ z1).map Spec.text)
  have hja : (PS.join ⟨#[32]⟩ (z0.map Spec.text)).size ≤ 2000000 := by omega
  have hjb : (PS.join ⟨#[32]⟩ (z1.map Spec.text)).size ≤ 2000000 := by omega
  have hjw : (PS.join ⟨#[32]⟩ ((z0 ++ z1).map Spec.text)).size ≤ 4000000 := by omega
  clear hj0 hj1 hj2
  have hcases : (n0 = 0 → PS.join ⟨#[32]⟩ ((z0 ++ z1).map Spec.text) = PS.join ⟨#[32]⟩ (z1.map Spec.text)) ∧ (n1 = 0 → PS.join ⟨#[32]⟩ ((z0 ++ z1).map Spec.text) = PS.join ⟨#[32]⟩ (z0.map Spec.text)) ∧
      (0 < n0 → 0 < n1 → PS.join ⟨#[32]⟩ ((z0 ++ z1).map Spec.text) = PS.join ⟨#[32]⟩ (z0.map Spec.text) ++ (⟨#[32]⟩ : ByteArray) ++ PS.join ⟨#[32]⟩ (z1.map Spec.text)) := by
    refine ⟨fun h => ?_, fun h => ?_, fun h1 h2 => ?_⟩
    · rw [List.eq_nil_of_length_eq_zero (HL0.out.trans h), List.nil_append]
    · rw [List.eq_nil_of_length_eq_zero (HL1.out.trans h), List.append_nil]
    · rw [List.map_append]
      refine PS.join_append _ _ (fun e => ?_) (fun e => ?_)
      · have := congrArg List.length e; rw [List.length_map, HL0.out] at this; simp at this; omega
      · have := congrArg List.length e; rw [List.length_map, HL1.out] at this; simp at this; omega
  have HCA := Lib.hid hcases; clear hcases
  go_wp2_with fail
  refine (cloneSpecs_any A0 n0 c0 z0 _ HV.out (by omega)).mono ?_
  rintro e w2 ⟨A2, c2, rfl, hv2, hb2⟩
  go_wp2_with fail
  refine (cloneSpecs_any A1 n1 c1 z1 _ (HU.out.later hb2) (by omega)).mono ?_
  rintro e w3 ⟨A3, c3, rfl, hu3, hb3⟩
  have HV3 := Lib.hid (hv2.later hb3)
  have HU3 := Lib.hid hu3
  have hbw3 := below_next hb3 hb2
  clear hv2 hu3 hb2 hb3
  go_wp2_with fail
  refine (seq_any A2 n0 c2 z0 _ HV3.out (by omega) HS0.out (by omega)).mono ?_
  rintro e w4 ⟨q1, rfl, hq1, hq1', HQ1, hb4⟩
  go_wp2_with fail
  refine (HQ1.out none (fun g h => by cases h) _ (grown_refl _ _)).mono ?_
  rintro e w5 ⟨rfl, hb5⟩
  have hb35 := below_next hb5 hb4
  clear hb4 hb5 HQ1 hq1 hq1'
  go_wp2_with fail
  refine (seq_any A3 n1 c3 z1 _ (HU3.out.later hb35) (by omega) HS1.out (by omega)).mono ?_
  rintro e w6 ⟨q2, rfl, hq2, hq2', HQ2, hb6⟩
  go_wp2_with fail
  refine (HQ2.out none (fun g h => by cases h) _ (grown_refl _ _)).mono ?_
  rintro e w7 ⟨rfl, hb7⟩
  have hb37 := below_next hb7 (below_next hb6 hb35)
  clear hb6 hb7 HQ2 hq2 hq2' hb35
  generalize PS.join ⟨#[32]⟩ (z0.map Spec.text) = ja at HCA hja ⊢
  generalize PS.join ⟨#[32]⟩ (z1.map Spec.text) = jb at HCA hjb ⊢
  obtain ⟨N, hN⟩ : ∃ N, N = n0 + n1 := ⟨_, rfl⟩
  have hNI : (n0 : Int) + (n1 : Int) = (N : Int) := by omega
  have HN := Lib.hid hN; clear hN
  have hNb : N ≤ 8192 := by have := HN.out; omega
  have HNI := Lib.hid hNI; clear hNI
  go_wp2_with (at_make; refine wpList_make_own _ rfl _ _ 52 rfl w7.heap.size 58 i0 _ 3 Try.underlying52 hi hz0 hz1 _ _ _ N rfl rfl HNI.out (by rw [hz2]; omega) (by unfold maxLen; omega) (Nat.le_refl _) ?_; intro w8 hown8 hg8)
  have hb8 : Below w7.heap.size w7 w8 := (Below.refl _ _).grown hg8 (Nat.le_refl _) (fun _ h => by cases h)
  clear hg8
  go_loopg [7, 8] n0 (fun k v i wr => ∃ j : Nat, k = n0 - j ∧ j ≤ n0 ∧ i = .int .i64 j ∧ v = .slice (some ⟨w7.heap.size, 0, none⟩) j N ∧ wr.ownsRow w7.heap.size 58 3 (.slice (some ⟨w7.heap.size, 0, none⟩) j N) j (specsCells (z0.take j)) ∧ Below w7.heap.size w7 wr)
  case atStart => exact ⟨0, rfl, Nat.zero_le _, rfl, rfl, hown8, hb8⟩
  case round =>
    obtain ⟨j, hk, hj, rfl, rfl, hown, hbel⟩ := hrel
    have KK := Lib.hid hk; clear hk hb8 hown8
    have hsz := hbel.size
    by_cases hlt : j < n0
    · rcases (HV3.out.later (below_next hbel hb37)).split with h | ⟨b, off, rfl, hc⟩
      · exfalso; omega
      obtain ⟨hc1, hc2, hc3⟩ := hc.out j hlt
      obtain ⟨sj, hsd⟩ : ∃ x, x = z0.getD j zeroSpec := ⟨_, rfl⟩
      rw [← hsd] at hc1 hc2 hc3
      have HTK : Hid (specsCells (z0.take (j + 1)) = specsCells (z0.take j) ++ sj.cells) := by
        rw [hsd]
        show _ = _
        rw [take_snocS z0 j (by rw [HL0.out]; exact hlt), specsCells_append]; simp [specsCells]
      clear hsd hc
      have hi0 : (0 : Int) ≤ (j : Int) := by omega
      have hi1 : (j : Int) < (n0 : Int) := by omega
      have hjN : j + 1 ≤ N := by have := HN.out; omega
      go_wp2_with (at_builtin; refine wpList_append_fits _ rfl _ _ 52 rfl w7.heap.size 58 i0 3 Try.underlying52 hi hz1 w7.heap.size j N (specsCells (z0.take j)) rfl (hown.alloc _) ⟨wr.heap.size, 0, none⟩ 1 1 sj.cells rfl rfl news3 (spec_one sj) (by omega) ?_; intro w9 hown9 hg9)
      have hb9 : Below w7.heap.size w7 w9 := (hbel.alloc hsz _).grown hg9 (by simp; omega) (fun k hk => by injection hk with hk; omega)
      rw [← HTK.out] at hown9
      clear hg9 hown hc1 hc2 hc3
      go_wp2_with fail
      go_roundg (n0 - (j + 1))
      case measure => rw [KK.out]; omega
      case rel => exact ⟨j + 1, rfl, by omega, by go_num, rfl, hown9, hb9⟩
    · obtain rfl : n0 = j := by omega
      have hfin : z0.take n0 = z0 := List.take_of_length_le (by rw [HL0.out]; exact Nat.le_refl _)
      rw [hfin] at hown
      clear hlt hfin
      go_wp2_with fail
      go_loopg [7, 9] n1 (fun k v i wq => ∃ j m : Nat, k = n1 - j ∧ j ≤ n1 ∧ i = .int .i64 j ∧ v = .slice (some ⟨w7.heap.size, 0, none⟩) m N ∧ Hid (m = n0 + j) ∧ wq.ownsRow w7.heap.size 58 3 (.slice (some ⟨w7.heap.size, 0, none⟩) m N) m (specsCells (z0 ++ z1.take j)) ∧ Below w7.heap.size w7 wq)
      case atStart => exact ⟨0, n0, rfl, Nat.zero_le _, rfl, rfl, Lib.hid rfl, by rw [List.take_zero, List.append_nil]; exact hown, hbel⟩
      case round =>
        obtain ⟨j, m, hk, hj, rfl, rfl, HM, hown2, hbel2⟩ := hrel
        have KK := Lib.hid hk; clear hk hown hbel hsz
        have hsz := hbel2.size
        by_cases hlt : j < n1
        · rcases (HU3.out.later (below_next hbel2 hb37)).split with h | ⟨b, off, rfl, hc⟩
          · exfalso; omega
          obtain ⟨hc1, hc2, hc3⟩ := hc.out j hlt
          obtain ⟨sj, hsd⟩ : ∃ x, x = z1.getD j zeroSpec := ⟨_, rfl⟩
          rw [← hsd] at hc1 hc2 hc3
          have HTK : Hid (specsCells (z0 ++ z1.take (j + 1)) = specsCells (z0 ++ z1.take j) ++ sj.cells) := by
            rw [hsd]
            show _ = _
            rw [take_snocS z1 j (by rw [HL1.out]; exact hlt), ← List.append_assoc, specsCells_append]; simp [specsCells]
          clear hsd hc
          have hi0 : (0 : Int) ≤ (j : Int) := by omega
          have hi1 : (j : Int) < (n1 : Int) := by omega
          have hmN : m + 1 ≤ N := by have := HN.out; have := HM.out; omega
          go_wp2_with (at_builtin; refine wpList_append_fits _ rfl _ _ 52 rfl w7.heap.size 58 i0 3 Try.underlying52 hi hz1 w7.heap.size m N (specsCells (z0 ++ z1.take j)) rfl (hown2.alloc _) ⟨wr.heap.size, 0, none⟩ 1 1 sj.cells rfl rfl news3 (spec_one sj) (by omega) ?_; intro w9 hown9 hg9)
          have hb9 : Below w7.heap.size w7 w9 := (hbel2.alloc hsz _).grown hg9 (by simp; omega) (fun k hk => by injection hk with hk; omega)
          rw [← HTK.out] at hown9
          clear hg9 hown2 hc1 hc2 hc3
          go_wp2_with fail
          go_roundg (n1 - (j + 1))
          case measure => rw [KK.out]; omega
          case rel => exact ⟨j + 1, m + 1, rfl, by omega, by go_num, rfl, Lib.hid (by rw [HM.out]; omega), hown9, hb9⟩
        · obtain rfl : n1 = j := by omega
          have hfin : z1.take n1 = z1 := List.take_of_length_le (by rw [HL1.out]; exact Nat.le_refl _)
          rw [hfin] at hown2
          obtain rfl : m = N := by rw [HM.out, HN.out]
          have hsp := Specs.of_row (n := m) (Row.of_own hown2) (by rw [List.length_append, HL0.out, HL1.out]; exact HM.out.symm) (by unfold maxLen; omega) (fun x hx => by
            rcases List.mem_append.1 hx with h | h
            · exact HK0.out x h
            · exact HK1.out x h)
          have HSP := Lib.hid hsp
          clear hsp hlt hfin hown2
          go_wp2_with fail
          refine (seq_any _ m _ (z0 ++ z1) _ HSP.out (by omega) HS2.out (by omega)).mono ?_
          rintro e w10 ⟨q3, rfl, hq3, hq3', HQ3, hb10⟩
          go_wp2_with fail
          refine (HQ3.out none (fun g h => by cases h) _ (grown_refl _ _)).mono ?_
          rintro e w11 ⟨rfl, hb11⟩
          have hbF : Below w.heap.size w w11 := by
            have h1 := below_next hb11 (below_next hb10 (below_next hbel2 hb37))
            exact hbw3.trans (h1.mono hbw3.size)
          clear hb10 hb11 HQ3 hq3 hq3' HSP hbel2 hsz HM HN HNI
          generalize PS.join ⟨#[32]⟩ ((z0 ++ z1).map Spec.text) = jw at HCA hjw ⊢
          have es : ((⟨#[32]⟩ : ByteArray)).size = 1 := rfl
          by_cases e0 : n0 = 0
          · have hr := HCA.out.1 e0
            subst e0
            subst hr
            go_wp2_with fail
            go_ret
            exact ⟨rfl, hbF⟩
          · have e0' : ((n0 : Int) == 0) = false := by simpa using e0
            by_cases e1 : n1 = 0
            · have hr := HCA.out.2.1 e1
              subst e1
              subst hr
              clear e0
              go_wp2_with fail
              go_ret
              exact ⟨rfl, hbF⟩
            · have e1' : ((n1 : Int) == 0) = false := by simpa using e1
              have hr := HCA.out.2.2 (by omega) (by omega)
              clear e0 e1
              have hsA : (ja ++ (⟨#[32]⟩ : ByteArray)).size = ja.size + 1 := PS.size_app _ _
              go_wp2_with fail
              go_ret
              exact ⟨rfl, hbF⟩
end fnSequenceStringSplitsAtConcatenation
end Go.Proofs.Ytjneojglklbbfaa
