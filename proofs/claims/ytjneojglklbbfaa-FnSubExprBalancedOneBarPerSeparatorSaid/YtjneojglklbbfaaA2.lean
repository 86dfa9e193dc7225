/-
  Copies of slices of slices in new memory, for specs and for strings. Conditions: sizes as stated.
-/
import Derived.Test.YtjneojglklbbfaaA1
import Derived.Test.YtjneojglklbbfaaD6B
import Derived.Deep.AppendLies
namespace Go.Proofs.Ytjneojglklbbfaa
open Go.RowKit
set_option linter.unusedSimpArgs false
set_option linter.unusedVariables false
/-- A copy in new memory. -/
def ClonePostF {α : Type} (S : World → Option Addr → Nat → List α → Prop) (w : World) (n : Nat) (zs : List α) (e : Ending) (w' : World) : Prop :=
  ∃ A' c', e = .returned (.slice A' n c') ∧ S w' A' n zs ∧ Below w.heap.size w w' ∧ Hid (∀ a, A' = some a → w.heap.size ≤ a.block)
/-- S is kept over writes to a block that it does not name. -/
def KeptG {α : Type} (S : World → Option Addr → Nat → List α → Prop) : Prop := ∀ (w w' : World) (A : Option Addr) (n g : Nat) (z : List α), S w A n z → w.grownBy w' (some g) → (∀ a, A = some a → a.block ≠ g) → S w' A n z
theorem specs_keptG : KeptG Specs := by
  intro w w' A n g z h hg hne
  obtain ⟨h1, h2, h3, h4⟩ := h
  refine ⟨h1, h2, h3, ?_⟩
  rcases h4 with h4 | ⟨b, off, e, hlt, hc⟩
  · exact .inl h4
  · have hb : some b ≠ some g := fun x => hne _ e (by injection x)
    exact .inr ⟨b, off, e, Nat.lt_of_lt_of_le hlt hg.size, fun i hi => ⟨(hg.cell_far ⟨b, off + i * 3, none⟩ hlt hb).trans (hc i hi).1, (hg.cell_far ⟨b, off + i * 3 + 1, none⟩ hlt hb).trans (hc i hi).2.1, (hg.cell_far ⟨b, off + i * 3 + 1 + 1, none⟩ hlt hb).trans (hc i hi).2.2⟩⟩
theorem strs_keptG : KeptG Strs := by
  intro w w' A n g z h hg hne
  obtain ⟨h1, h2, h3, h4⟩ := h
  refine ⟨h1, h2, h3, ?_⟩
  rcases h4 with h4 | ⟨b, off, e, hlt, hc⟩
  · exact .inl h4
  · have hb : some b ≠ some g := fun x => hne _ e (by injection x)
    exact .inr ⟨b, off, e, Nat.lt_of_lt_of_le hlt hg.size, fun i hi => (hg.cell_far ⟨b, off + i, none⟩ hlt hb).trans (hc i hi)⟩
theorem specs_kept : Kept Specs := fun _ _ _ _ _ h hb => h.later hb
theorem strs_kept : Kept Strs := fun _ _ _ _ _ h hb => h.later hb
set_option maxHeartbeats 1000000 in
set_option maxRecDepth 100000 in
theorem cloneSpecsF (A : Option Addr) (n c : Nat) (z : List Spec) (w : World) (hv : Specs w A n z) (h1 : n ≤ 65536) : Calls Try.prog 24 #[.slice A n c] w (ClonePostF Specs w n z) := by
  obtain ⟨i0, hi, hz0, hz1, hz2⟩ := info_parts specInfo
  have HL := Lib.hid hv.1
  have HV := Lib.hid hv
  cases A with
  | none =>
    obtain rfl : n = 0 := by
      rcases hv.2.2.2 with h | ⟨b, off, h, _⟩
      · exact h.1
      · cases h
    have hz : z = [] := List.eq_nil_of_length_eq_zero hv.1
    clear hv
    have hq := fun W => Lib.run_eql_slice_nil (P := Try.prog) W 52 58 none 0 c 0 0 Try.underlying52
    simp only [Option.isNone_none] at hq
    go_enter Try.func24, Try.ntmps24
    go_wp2_with fail
    go_ret
    exact ⟨none, 0, rfl, ⟨HL.out, Nat.zero_le _, by rw [hz]; simp, .inl ⟨rfl, hz⟩⟩, Below.refl _ _, Lib.hid (fun a h => by cases h)⟩
  | some a =>
    have hq := fun W => Lib.run_eql_slice_nil (P := Try.prog) W 52 58 (some a) n c 0 0 Try.underlying52
    simp only [Option.isNone_some] at hq
    have hsp : n ≤ 0 ∨ ∃ b off, a = ⟨b, off, none⟩ ∧ Hid (∀ i, i < n → w.cell? ⟨b, off + i * 3, none⟩ = some (.int .u8 (z.getD i zeroSpec).k) ∧ w.cell? ⟨b, off + i * 3 + 1, none⟩ = some (.string (z.getD i zeroSpec).s) ∧ w.cell? ⟨b, off + i * 3 + 1 + 1, none⟩ = some (.int .u8 (z.getD i zeroSpec).r)) := by
      rcases hv.split with h | ⟨b, off, h, hc⟩
      · exact .inl h
      · exact .inr ⟨b, off, by injection h, hc⟩
    clear hv
    rcases hsp with h0 | ⟨b0, o0, rfl, hc0⟩
    all_goals
      go_enter Try.func24, Try.ntmps24
      go_wp2_with (at_make; refine wpList_make_full _ rfl _ _ 52 rfl w.heap.size 58 i0 _ 3 Try.underlying52 hi hz0 hz1 _ _ _ _ n rfl rfl rfl rfl (by rw [hz2]; omega) (by unfold maxLen; omega) (Nat.le_refl _) ?_; intro w1 hown1 hg1)
      rw [madeSpecs] at hown1
      have hrow1 := Row.of_own hown1
      have e1 : List.replicate n zeroSpec = cloneMidS z 0 := by unfold cloneMidS; rw [HL.out]; simp
      rw [e1] at hrow1
      have hb1 : Below w.heap.size w w1 := (Below.refl _ _).grown hg1 (Nat.le_refl _) (fun _ h => by cases h)
      clear hown1 hg1 e1 hq
      go_loopg [4] n (fun k i wr => ∃ j : Nat, k = n - j ∧ j ≤ n ∧ i = .int .i64 j ∧ Row wr w.heap.size 58 (specsCells (cloneMidS z j)) ∧ Below w.heap.size w wr)
      case atStart => exact ⟨0, rfl, Nat.zero_le _, rfl, hrow1, hb1⟩
      case round =>
        obtain ⟨j, hk, hj, rfl, hrow, hbel⟩ := hrel
        have KK := Lib.hid hk; clear hk
        by_cases hlt : j < n
        · first
            | (exfalso; omega)
            | (obtain ⟨hc1, hc2, hc3⟩ := hc0.out j hlt
               have hcj := (hbel.cell (p := ⟨b0, o0 + j * 3, none⟩) (World.block_lt_of_cell? _ _ hc1)).trans hc1
               have hcj2 := (hbel.cell (p := ⟨b0, o0 + j * 3 + 1, none⟩) (World.block_lt_of_cell? _ _ hc2)).trans hc2
               have hcj3 := (hbel.cell (p := ⟨b0, o0 + j * 3 + 1 + 1, none⟩) (World.block_lt_of_cell? _ _ hc3)).trans hc3
               have hmid : j < (cloneMidS z j).length := by rw [cloneMidS_length z j (by rw [HL.out]; exact hj), HL.out]; exact hlt
               obtain ⟨ho1, ho2, ho3⟩ := hrow.spec hmid
               generalize (cloneMidS z j).getD j zeroSpec = old at ho1 ho2 ho3
               have fz1 := hrow.frozen (j * 3)
               have fz2 := hrow.frozen (j * 3 + 1)
               have fz3 := hrow.frozen (j * 3 + 1 + 1)
               have hset := hrow.setSpec j (z.getD j zeroSpec) hmid
               rw [cloneMidS_set z j (by rw [HL.out]; exact hlt)] at hset
               have HSET := Lib.hid hset
               generalize z.getD j zeroSpec = sj at hcj hcj2 hcj3 HSET
               clear hset hc1 hc2 hc3 hmid
               go_wp2_with fail
               go_roundg (n - (j + 1))
               case measure => rw [KK.out]; omega
               case rel => exact ⟨j + 1, rfl, by omega, by go_num, HSET.out, ((hbel.setCell (p := ⟨w.heap.size, _, none⟩) (Nat.le_refl _) _).setCell (p := ⟨w.heap.size, _, none⟩) (Nat.le_refl _) _).setCell (p := ⟨w.heap.size, _, none⟩) (Nat.le_refl _) _⟩)
        · obtain rfl : n = j := by omega
          rw [← HL.out, cloneMidS_full] at hrow
          go_wp2_with fail
          go_ret
          exact ⟨some ⟨w.heap.size, 0, none⟩, n, rfl, Specs.of_row hrow HL.out HV.out.2.1 HV.out.2.2.1, hbel, Lib.hid (fun a h => by injection h with h; subst h; exact Nat.le_refl _)⟩
set_option maxHeartbeats 1000000 in
set_option maxRecDepth 100000 in
theorem cloneStrsF (A : Option Addr) (n c : Nat) (z : List ByteArray) (w : World) (hv : Strs w A n z) (h1 : n ≤ 65536) : Calls Try.prog 43 #[.slice A n c] w (ClonePostF Strs w n z) := by
  obtain ⟨i0, hi, hz0, hz1, hz2⟩ := info_parts strInfo
  have HL := Lib.hid hv.1
  have HV := Lib.hid hv
  cases A with
  | none =>
    obtain rfl : n = 0 := by
      rcases hv.2.2.2 with h | ⟨b, off, h, _⟩
      · exact h.1
      · cases h
    have hz : z = [] := List.eq_nil_of_length_eq_zero hv.1
    clear hv
    have hq := fun W => Lib.run_eql_slice_nil (P := Try.prog) W 22 9 none 0 c 0 0 Try.underlying22
    simp only [Option.isNone_none] at hq
    go_enter Try.func43, Try.ntmps43
    go_wp2_with fail
    go_ret
    exact ⟨none, 0, rfl, ⟨HL.out, Nat.zero_le _, by rw [hz]; simp, .inl ⟨rfl, hz⟩⟩, Below.refl _ _, Lib.hid (fun a h => by cases h)⟩
  | some a =>
    have hq := fun W => Lib.run_eql_slice_nil (P := Try.prog) W 22 9 (some a) n c 0 0 Try.underlying22
    simp only [Option.isNone_some] at hq
    have hsp : n ≤ 0 ∨ ∃ b off, a = ⟨b, off, none⟩ ∧ Hid (∀ i, i < n → w.cell? ⟨b, off + i, none⟩ = some (.string (z.getD i ByteArray.empty))) := by
      rcases hv.split with h | ⟨b, off, h, hc⟩
      · exact .inl h
      · exact .inr ⟨b, off, by injection h, hc⟩
    clear hv
    rcases hsp with h0 | ⟨b0, o0, rfl, hc0⟩
    all_goals
      go_enter Try.func43, Try.ntmps43
      go_wp2_with (at_make; refine wpList_make_full _ rfl _ _ 22 rfl w.heap.size 9 i0 _ 1 Try.underlying22 hi hz0 hz1 _ _ _ _ n rfl rfl rfl rfl (by rw [hz2]; omega) (by unfold maxLen; omega) (Nat.le_refl _) ?_; intro w1 hown1 hg1)
      have e1 : (madeCells (Value.cells (Value.string ByteArray.empty)) (n * 1)).toList = cloneMid z 0 := by
        rw [Nat.mul_one]
        unfold cloneMid
        rw [HL.out]
        rw [List.take_zero, List.map_nil, List.nil_append, Nat.sub_zero]
        exact toList_madeCells_one (.string ByteArray.empty) n
      rw [e1] at hown1
      have hrow1 := Row.of_own hown1
      have hb1 : Below w.heap.size w w1 := (Below.refl _ _).grown hg1 (Nat.le_refl _) (fun _ h => by cases h)
      clear hown1 hg1 e1 hq
      go_loopg [4] n (fun k i wr => ∃ j : Nat, k = n - j ∧ j ≤ n ∧ i = .int .i64 j ∧ Row wr w.heap.size 9 (cloneMid z j) ∧ Below w.heap.size w wr)
      case atStart => exact ⟨0, rfl, Nat.zero_le _, rfl, hrow1, hb1⟩
      case round =>
        obtain ⟨j, hk, hj, rfl, hrow, hbel⟩ := hrel
        have KK := Lib.hid hk; clear hk
        by_cases hlt : j < n
        · first
            | (exfalso; omega)
            | (have hcj := (hbel.cell (p := ⟨b0, o0 + j, none⟩) (World.block_lt_of_cell? _ _ (hc0.out j hlt))).trans (hc0.out j hlt)
               obtain ⟨old, hold⟩ := cloneMid_at z j j (by rw [HL.out]; exact hlt)
               have hco := hrow.cell hold
               have fz := hrow.frozen j
               have hset := hrow.set j (.string (z.getD j ByteArray.empty))
               rw [cloneMid_set z j (by rw [HL.out]; exact hlt)] at hset
               generalize z.getD j ByteArray.empty = sj at hcj hset
               clear hold
               go_wp2_with fail
               go_roundg (n - (j + 1))
               case measure => rw [KK.out]; omega
               case rel => exact ⟨j + 1, rfl, by omega, by go_num, hset, hbel.setCell (p := ⟨w.heap.size, j, none⟩) (Nat.le_refl _) _⟩)
        · obtain rfl : n = j := by omega
          go_wp2_with fail
          go_ret
          refine ⟨some ⟨w.heap.size, 0, none⟩, n, rfl, ⟨HL.out, HV.out.2.1, HV.out.2.2.1, ?_⟩, hbel, Lib.hid (fun a h => by injection h with h; subst h; exact Nat.le_refl _)⟩
          rcases Nat.eq_zero_or_pos n with h | h
          · exact .inl ⟨h, List.eq_nil_of_length_eq_zero (by rw [HL.out]; exact h)⟩
          · refine .inr ⟨w.heap.size, 0, rfl, hrow.lt, fun i hi => ?_⟩
            rw [Nat.zero_add]
            refine hrow.cell ?_
            have := cloneMid_full z i (by rw [HL.out]; exact hi)
            rw [HL.out] at this
            exact this
/-! ### the outer copy -/
/-- The row behind j rounds: the first j cells are copies that do not lie in the row itself. -/
def AltMid {α : Type} (S : World → Option Addr → Nat → List α → Prop) (w : World) (g n : Nat) (zss : List (List α)) (j : Nat) (vs : List Value) : Prop :=
  vs.length = n ∧ ∀ i, i < j → ∃ Ai ni ci, vs[i]? = some (.slice Ai ni ci) ∧ S w Ai ni (zss.getD i []) ∧ ∀ a, Ai = some a → a.block ≠ g
theorem AltMid.step {α : Type} {S : World → Option Addr → Nat → List α → Prop} (hK : Kept S) (hG : KeptG S) {w w1 : World} {g n : Nat} {zss : List (List α)} {j : Nat} {vs : List Value} (h : AltMid S w g n zss j vs) (hj : j < n) (hb : Below w.heap.size w w1) (hgl : g < w.heap.size)
    {A : Option Addr} {m c : Nat} (hs : S w1 A m (zss.getD j [])) (hA : ∀ a, A = some a → w.heap.size ≤ a.block) : AltMid S (w1.setCell ⟨g, j, none⟩ (.slice A m c)) g n zss (j + 1) (vs.set j (.slice A m c)) := by
  have hgr : w1.grownBy (w1.setCell ⟨g, j, none⟩ (.slice A m c)) (some g) := grown_setCell (grown_refl w1 (some g)) (p := ⟨g, j, none⟩) (.inl rfl) _
  refine ⟨by rw [List.length_set]; exact h.1, fun i hi => ?_⟩
  rcases Nat.lt_or_ge i j with hij | hij
  · obtain ⟨Ai, ni, ci, h1, h2, h3⟩ := h.2 i hij
    refine ⟨Ai, ni, ci, ?_, hG _ _ _ _ _ _ (hK _ _ _ _ _ h2 hb) hgr h3, h3⟩
    rw [List.getElem?_set, if_neg (by omega)]; exact h1
  · obtain rfl : i = j := by omega
    refine ⟨A, m, c, ?_, hG _ _ _ _ _ _ hs hgr (fun a ha => by have := hA a ha; omega), fun a ha => by have := hA a ha; omega⟩
    rw [List.getElem?_set, if_pos rfl, if_pos (by rw [h.1]; exact hj)]
theorem AltMid.alts {α : Type} {S : World → Option Addr → Nat → List α → Prop} {w : World} {g n : Nat} {t : TypeId} {zss : List (List α)} {vs : List Value} (h : AltMid S w g n zss n vs) (hr : Row w g t vs) (hl : zss.length = n) (hm : n ≤ maxLen) : Alts S w (some ⟨g, 0, none⟩) n zss := by
  refine ⟨hl, hm, ?_⟩
  refine .inr ⟨g, 0, rfl, hr.lt, fun i hi => ?_⟩
  obtain ⟨Ai, ni, ci, h1, h2, _⟩ := h.2 i hi
  exact ⟨Ai, ni, ci, by rw [Nat.zero_add]; exact hr.cell h1, h2⟩
theorem cloneAltsInfo : (Try.prog.info? 52).map (fun i => (i.zero, i.size, i.bytes)) = some (some (Value.slice none 0 0), 1, 24) := by kernel_rfl
set_option maxHeartbeats 1000000 in
set_option maxRecDepth 100000 in
theorem cloneAlts (A : Option Addr) (n c : Nat) (z : List (List Spec)) (w : World) (hv : Alts Specs w A n z) (h1 : n ≤ 65536) (hin : ∀ i, i < n → (z.getD i []).length ≤ 65536) : Calls Try.prog 30 #[.slice A n c] w (ClonePostF (Alts Specs) w n z) := by
  obtain ⟨i0, hi, hz0, hz1, hz2⟩ := info_parts cloneAltsInfo
  have HL := Lib.hid hv.1
  have HV := Lib.hid hv
  have HIN := Lib.hid hin; clear hin
  cases A with
  | none =>
    obtain rfl : n = 0 := by
      rcases hv.2.2 with h | ⟨b, off, h, _⟩
      · exact h.1
      · cases h
    have hz : z = [] := List.eq_nil_of_length_eq_zero hv.1
    clear hv
    have hq := fun W => Lib.run_eql_slice_nil (P := Try.prog) W 59 52 none 0 c 0 0 Try.underlying59
    simp only [Option.isNone_none] at hq
    go_enter Try.func30, Try.ntmps30
    go_wp2_with fail
    go_ret
    exact ⟨none, 0, rfl, ⟨HL.out, Nat.zero_le _, .inl ⟨rfl, hz⟩⟩, Below.refl _ _, Lib.hid (fun a h => by cases h)⟩
  | some a =>
    have hq := fun W => Lib.run_eql_slice_nil (P := Try.prog) W 59 52 (some a) n c 0 0 Try.underlying59
    simp only [Option.isNone_some] at hq
    clear hv
    go_enter Try.func30, Try.ntmps30
    go_wp2_with (at_make; refine wpList_make_full _ rfl _ _ 59 rfl w.heap.size 52 i0 _ 1 Try.underlying59 hi hz0 hz1 _ _ _ _ n rfl rfl rfl rfl (by rw [hz2]; omega) (by unfold maxLen; omega) (Nat.le_refl _) ?_; intro w1 hown1 hg1)
    have e1 : (madeCells (Value.cells (Value.slice none 0 0)) (n * 1)).toList = List.replicate n (Value.slice none 0 0) := by
      rw [Nat.mul_one]
      exact toList_madeCells_one (.slice none 0 0) n
    rw [e1] at hown1
    have hrow1 := Row.of_own hown1
    have hb1 : Below w.heap.size w w1 := (Below.refl _ _).grown hg1 (Nat.le_refl _) (fun _ h => by cases h)
    clear hown1 hg1 e1 hq
    go_loopg [4] n (fun k i wr => ∃ (j : Nat) (vs : List Value), k = n - j ∧ j ≤ n ∧ i = .int .i64 j ∧ Row wr w.heap.size 52 vs ∧ Hid (AltMid Specs wr w.heap.size n z j vs) ∧ Below w.heap.size w wr)
    case atStart => exact ⟨0, _, rfl, Nat.zero_le _, rfl, hrow1, Lib.hid ⟨by simp, fun i hi => absurd hi (Nat.not_lt_zero _)⟩, hb1⟩
    case round =>
      obtain ⟨j, vs, hk, hj, rfl, hrow, HM, hbel⟩ := hrel
      have KK := Lib.hid hk; clear hk hrow1 hb1
      by_cases hlt : j < n
      · rcases (HV.out.later specs_kept hbel).split with h | ⟨b, off, hab, hc⟩
        · exfalso; omega
        injection hab with hab
        subst hab
        obtain ⟨Ai, ni, ci, hcj, hsi⟩ := hc.out j hlt
        have hni := HIN.out j hlt
        rw [hsi.1] at hni
        have HSI := Lib.hid hsi
        have hi0 : (0 : Int) ≤ (j : Int) := by omega
        have hi1 : (j : Int) < (n : Int) := by omega
        clear hc hsi
        go_wp2_with fail
        refine (cloneSpecsF Ai ni ci _ _ HSI.out hni).mono ?_
        rintro e w5 ⟨A5, c5, rfl, hs5, hb5, HA5⟩
        obtain ⟨old, hold⟩ : ∃ u, vs[j]? = some u := ⟨vs[j]'(by rw [HM.out.1]; exact hlt), List.getElem?_eq_getElem _⟩
        have hrow5 := hrow.later hb5
        have hco := hrow5.cell hold
        have fz := hrow5.frozen j
        have hset := hrow5.set j (.slice A5 ni c5)
        have HM5 : Hid (AltMid Specs (w5.setCell ⟨w.heap.size, j, none⟩ (.slice A5 ni c5)) w.heap.size n z (j + 1) (vs.set j (.slice A5 ni c5))) := HM.out.step specs_kept specs_keptG hlt hb5 hrow.lt hs5 HA5.out
        have hbel5 := below_next hb5 (w := w) (W := wr) hbel
        clear hold hs5 hb5 hcj
        go_wp2_with fail
        go_roundg (n - (j + 1))
        case measure => rw [KK.out]; omega
        case rel => exact ⟨j + 1, _, rfl, by omega, by go_num, hset, HM5, hbel5.setCell (p := ⟨w.heap.size, j, none⟩) (Nat.le_refl _) _⟩
      · obtain rfl : n = j := by omega
        go_wp2_with fail
        go_ret
        exact ⟨some ⟨w.heap.size, 0, none⟩, n, rfl, HM.out.alts hrow HL.out HV.out.2.1, hbel, Lib.hid (fun a h => by injection h with h; subst h; exact Nat.le_refl _)⟩
theorem cloneNamesInfo : (Try.prog.info? 22).map (fun i => (i.zero, i.size, i.bytes)) = some (some (Value.slice none 0 0), 1, 24) := by kernel_rfl
set_option maxHeartbeats 1000000 in
set_option maxRecDepth 100000 in
theorem cloneNames (A : Option Addr) (n c : Nat) (z : List (List ByteArray)) (w : World) (hv : Alts Strs w A n z) (h1 : n ≤ 65536) (hin : ∀ i, i < n → (z.getD i []).length ≤ 65536) : Calls Try.prog 50 #[.slice A n c] w (ClonePostF (Alts Strs) w n z) := by
  obtain ⟨i0, hi, hz0, hz1, hz2⟩ := info_parts cloneNamesInfo
  have HL := Lib.hid hv.1
  have HV := Lib.hid hv
  have HIN := Lib.hid hin; clear hin
  cases A with
  | none =>
    obtain rfl : n = 0 := by
      rcases hv.2.2 with h | ⟨b, off, h, _⟩
      · exact h.1
      · cases h
    have hz : z = [] := List.eq_nil_of_length_eq_zero hv.1
    clear hv
    have hq := fun W => Lib.run_eql_slice_nil (P := Try.prog) W 46 22 none 0 c 0 0 Try.underlying46
    simp only [Option.isNone_none] at hq
    go_enter Try.func50, Try.ntmps50
    go_wp2_with fail
    go_ret
    exact ⟨none, 0, rfl, ⟨HL.out, Nat.zero_le _, .inl ⟨rfl, hz⟩⟩, Below.refl _ _, Lib.hid (fun a h => by cases h)⟩
  | some a =>
    have hq := fun W => Lib.run_eql_slice_nil (P := Try.prog) W 46 22 (some a) n c 0 0 Try.underlying46
    simp only [Option.isNone_some] at hq
    clear hv
    go_enter Try.func50, Try.ntmps50
    go_wp2_with (at_make; refine wpList_make_full _ rfl _ _ 46 rfl w.heap.size 22 i0 _ 1 Try.underlying46 hi hz0 hz1 _ _ _ _ n rfl rfl rfl rfl (by rw [hz2]; omega) (by unfold maxLen; omega) (Nat.le_refl _) ?_; intro w1 hown1 hg1)
    have e1 : (madeCells (Value.cells (Value.slice none 0 0)) (n * 1)).toList = List.replicate n (Value.slice none 0 0) := by
      rw [Nat.mul_one]
      exact toList_madeCells_one (.slice none 0 0) n
    rw [e1] at hown1
    have hrow1 := Row.of_own hown1
    have hb1 : Below w.heap.size w w1 := (Below.refl _ _).grown hg1 (Nat.le_refl _) (fun _ h => by cases h)
    clear hown1 hg1 e1 hq
    go_loopg [4] n (fun k i wr => ∃ (j : Nat) (vs : List Value), k = n - j ∧ j ≤ n ∧ i = .int .i64 j ∧ Row wr w.heap.size 22 vs ∧ Hid (AltMid Strs wr w.heap.size n z j vs) ∧ Below w.heap.size w wr)
    case atStart => exact ⟨0, _, rfl, Nat.zero_le _, rfl, hrow1, Lib.hid ⟨by simp, fun i hi => absurd hi (Nat.not_lt_zero _)⟩, hb1⟩
    case round =>
      obtain ⟨j, vs, hk, hj, rfl, hrow, HM, hbel⟩ := hrel
      have KK := Lib.hid hk; clear hk hrow1 hb1
      by_cases hlt : j < n
      · rcases (HV.out.later strs_kept hbel).split with h | ⟨b, off, hab, hc⟩
        · exfalso; omega
        injection hab with hab
        subst hab
        obtain ⟨Ai, ni, ci, hcj, hsi⟩ := hc.out j hlt
        have hni := HIN.out j hlt
        rw [hsi.1] at hni
        have HSI := Lib.hid hsi
        have hi0 : (0 : Int) ≤ (j : Int) := by omega
        have hi1 : (j : Int) < (n : Int) := by omega
        clear hc hsi
        go_wp2_with fail
        refine (cloneStrsF Ai ni ci _ _ HSI.out hni).mono ?_
        rintro e w5 ⟨A5, c5, rfl, hs5, hb5, HA5⟩
        obtain ⟨old, hold⟩ : ∃ u, vs[j]? = some u := ⟨vs[j]'(by rw [HM.out.1]; exact hlt), List.getElem?_eq_getElem _⟩
        have hrow5 := hrow.later hb5
        have hco := hrow5.cell hold
        have fz := hrow5.frozen j
        have hset := hrow5.set j (.slice A5 ni c5)
        have HM5 : Hid (AltMid Strs (w5.setCell ⟨w.heap.size, j, none⟩ (.slice A5 ni c5)) w.heap.size n z (j + 1) (vs.set j (.slice A5 ni c5))) := HM.out.step strs_kept strs_keptG hlt hb5 hrow.lt hs5 HA5.out
        have hbel5 := below_next hb5 (w := w) (W := wr) hbel
        clear hold hs5 hb5 hcj
        go_wp2_with fail
        go_roundg (n - (j + 1))
        case measure => rw [KK.out]; omega
        case rel => exact ⟨j + 1, _, rfl, by omega, by go_num, hset, HM5, hbel5.setCell (p := ⟨w.heap.size, j, none⟩) (Nat.le_refl _) _⟩
      · obtain rfl : n = j := by omega
        go_wp2_with fail
        go_ret
        exact ⟨some ⟨w.heap.size, 0, none⟩, n, rfl, HM.out.alts hrow HL.out HV.out.2.1, hbel, Lib.hid (fun a h => by injection h with h; subst h; exact Nat.le_refl _)⟩
end Go.Proofs.Ytjneojglklbbfaa
