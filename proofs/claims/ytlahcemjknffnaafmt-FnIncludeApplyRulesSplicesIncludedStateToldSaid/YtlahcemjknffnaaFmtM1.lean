/-
  Slices of slices of strings at this seat: what they read as; copies; the bound's test; namesAt. Conditions: sizes as stated.
-/
import Derived.Test.YtlahcemjknffnaaFmtF2
import Derived.Deep.Slices
import Derived.Deep.Fields
import Derived.ChangeSame
import Derived.Deep.AppendLies
namespace Go.Proofs.YtlahcemjknffnaaFmt
open Go.RowKit
set_option linter.unusedSimpArgs false
set_option linter.unusedVariables false
/-- The slice of slices '.slice A n c' reads as the lists zss; S says how an inner slice reads. -/
def Alts {α : Type} (S : World → Option Addr → Nat → List α → Prop) (w : World) (A : Option Addr) (n : Nat) (zss : List (List α)) : Prop :=
  zss.length = n ∧ n ≤ maxLen ∧ ((n = 0 ∧ zss = []) ∨ ∃ b off, A = some ⟨b, off, none⟩ ∧ b < w.heap.size ∧ ∀ i, i < n → ∃ Ai ni ci, w.cell? ⟨b, off + i, none⟩ = some (.slice Ai ni ci) ∧ S w Ai ni (zss.getD i []))
/-- S is kept over new memory. -/
def Kept {α : Type} (S : World → Option Addr → Nat → List α → Prop) : Prop := ∀ (w w' : World) (A : Option Addr) (n : Nat) (z : List α), S w A n z → Below w.heap.size w w' → S w' A n z
theorem Alts.later {α : Type} {S : World → Option Addr → Nat → List α → Prop} (hS : Kept S) {w w' : World} {A : Option Addr} {n : Nat} {zss : List (List α)} (h : Alts S w A n zss) (hb : Below w.heap.size w w') : Alts S w' A n zss := by
  obtain ⟨h1, h2, h4⟩ := h
  refine ⟨h1, h2, ?_⟩
  rcases h4 with h4 | ⟨b, off, e, hlt, hc⟩
  · exact .inl h4
  · refine .inr ⟨b, off, e, Nat.lt_of_lt_of_le hlt hb.size, fun i hi => ?_⟩
    obtain ⟨Ai, ni, ci, h5, h6⟩ := hc i hi
    exact ⟨Ai, ni, ci, (hb.cell (p := ⟨b, off + i, none⟩) hlt).trans h5, hS _ _ _ _ _ h6 hb⟩
theorem Alts.split {α : Type} {S : World → Option Addr → Nat → List α → Prop} {w : World} {A : Option Addr} {n : Nat} {zss : List (List α)} (h : Alts S w A n zss) :
    n ≤ 0 ∨ ∃ b off, A = some ⟨b, off, none⟩ ∧ Hid (∀ i, i < n → ∃ Ai ni ci, w.cell? ⟨b, off + i, none⟩ = some (.slice Ai ni ci) ∧ S w Ai ni (zss.getD i [])) := by
  obtain ⟨h1, h2, h4⟩ := h
  rcases h4 with h4 | ⟨b, off, e, _, hc⟩
  · exact .inl (by omega)
  · exact .inr ⟨b, off, e, hc⟩
section
variable {H : Type} {enc : TypeId × Value → H} {P : Program} {w : World}
open Go.ChangeShapes Go.WideShapes Go.Deep in
theorem isAlts_of {α : Type} {S : World → Option Addr → Nat → List α → Prop} {t e e2 : TypeId} {A : Option Addr} {n c : Nat} {d : DataW H} {p : List MemPlace} (ht : P.underlying t = some (.slice e)) (he : P.underlying e = some (.slice e2)) (hC : P.cellsOf e = 1)
    (hin : ∀ (A : Option Addr) (n c : Nat) (d : DataW H) (p : List MemPlace), DataW.Trod enc P w 0 (fun _ => true) true e (.slice A n c) d p → ∃ zs, S w A n zs)
    (h : DataW.Trod enc P w 0 (fun _ => true) true t (.slice A n c) d p) : ∃ zss, Alts S w A n zss := by
  obtain ⟨fuel, hf⟩ := h
  rcases open_slice ht hf with ⟨h0, _⟩ | ⟨a, len, cap, m, k, D, Pl, hcs, hb, hl, hm, hmm, hx, hi⟩
  · simp [Value.cells] at h0
    obtain ⟨rfl, rfl, rfl⟩ := h0
    exact ⟨[], rfl, Nat.zero_le _, .inl ⟨rfl, rfl⟩⟩
  · simp [Value.cells] at hcs
    obtain ⟨rfl, rfl, rfl⟩ := hcs
    have hle : n ≤ m := by rw [hmm]; simp; exact hl
    have key : ∀ i, i < n → ∃ x : List α, ∃ Ai ni ci, w.cell? (a.add i) = some (.slice Ai ni ci) ∧ S w Ai ni x := by
      intro i him
      obtain ⟨cs', hc, ht'⟩ := hi i (by omega)
      rw [hC, Nat.mul_one] at hc
      obtain ⟨_, hcl, hat⟩ := World.cells?_some hc
      match cs', hcl with
      | [c0], _ =>
        have q0 := hat 0 (by omega)
        rw [Go.Deep.add_add, Nat.add_zero] at q0
        have hsl : ∃ Ai ni ci, c0 = .slice Ai ni ci := by
          rcases open_slice he ht' with ⟨h0, _⟩ | ⟨a', len', cap', m', k', D', Pl', hcs', _⟩
          · simp at h0; exact ⟨_, _, _, h0⟩
          · simp at hcs'; exact ⟨_, _, _, hcs'⟩
        obtain ⟨Ai, ni, ci, rfl⟩ := hsl
        obtain ⟨zs, hz⟩ := hin Ai ni ci _ _ ⟨_, by simpa [Value.cells] using ht'⟩
        exact ⟨zs, Ai, ni, ci, by simpa using q0, hz⟩
    have hzs : ∃ zs : List (List α), zs.length = n ∧ ∀ i, i < n → ∃ Ai ni ci, w.cell? (a.add i) = some (.slice Ai ni ci) ∧ S w Ai ni (zs.getD i []) := by
      refine ⟨(List.range n).map (fun i => if hi : i < n then (key i hi).choose else []), by simp, fun i hin => ?_⟩
      have e : ((List.range n).map (fun i => if hi : i < n then (key i hi).choose else [])).getD i [] = (key i hin).choose := by
        rw [List.getD_eq_getElem?_getD, List.getElem?_eq_getElem (by simpa using hin)]
        simp [hin]
      rw [e]
      exact (key i hin).choose_spec
    obtain ⟨zs, hzl, hz⟩ := hzs
    refine ⟨zs, hzl, by omega, ?_⟩
    rcases Nat.eq_zero_or_pos n with h0 | h0
    · subst h0; exact .inl ⟨rfl, List.eq_nil_of_length_eq_zero hzl⟩
    · obtain ⟨b, off, spot⟩ := a
      obtain ⟨A0, n0, c0, hc0, _⟩ := hz 0 h0
      have hspot : spot = none := by simpa [Addr.add] using World.cell?_spot hc0
      subst hspot
      have e1 : ∀ i, (⟨b, off, none⟩ : Addr).add i = ⟨b, off + i, none⟩ := fun i => by unfold Addr.add; by_cases h : i = 0 <;> simp [h]
      refine .inr ⟨b, off, rfl, World.block_lt_of_cell? _ _ hc0, fun i hi => ?_⟩
      have h := hz i hi
      rw [e1] at h
      exact h
end
theorem grown_refl (w : World) (g : Option Nat) : w.grownBy w g := grown_of_below (Below.refl _ _) g
/-- A copy in new memory. -/
def ClonePostF {α : Type} (S : World → Option Addr → Nat → List α → Prop) (w : World) (n : Nat) (zs : List α) (e : Ending) (w' : World) : Prop :=
  ∃ A' c', e = .returned (.slice A' n c') ∧ S w' A' n zs ∧ Below w.heap.size w w' ∧ Hid (∀ a, A' = some a → w.heap.size ≤ a.block)
/-- S is kept over writes to a block that it does not name. -/
def KeptG {α : Type} (S : World → Option Addr → Nat → List α → Prop) : Prop := ∀ (w w' : World) (A : Option Addr) (n g : Nat) (z : List α), S w A n z → w.grownBy w' (some g) → (∀ a, A = some a → a.block ≠ g) → S w' A n z
theorem strs_keptG : KeptG Strs := by
  intro w w' A n g z h hg hne
  obtain ⟨h1, h2, h3, h4⟩ := h
  refine ⟨h1, h2, h3, ?_⟩
  rcases h4 with h4 | ⟨b, off, e, hlt, hc⟩
  · exact .inl h4
  · have hb : some b ≠ some g := fun x => hne _ e (by injection x)
    exact .inr ⟨b, off, e, Nat.lt_of_lt_of_le hlt hg.size, fun i hi => (hg.cell_far ⟨b, off + i, none⟩ hlt hb).trans (hc i hi)⟩
theorem strs_kept : Kept Strs := fun _ _ _ _ _ h hb => h.later hb
set_option maxHeartbeats 1000000 in
set_option maxRecDepth 100000 in
theorem cloneStrsF (A : Option Addr) (n c : Nat) (z : List ByteArray) (w : World) (hv : Strs w A n z) (h1 : n ≤ 1048576) : Calls Tryf.prog 6 #[.slice A n c] w (ClonePostF Strs w n z) := by
  obtain ⟨i0, hi, hz0, hz1, hz2⟩ := info_parts strInfo
  have HL := Lib.hid hv.1
  have HV := Lib.hid hv
  cases A with
  | none =>
    obtain rfl : n = 0 := by
      rcases hv.2.2.2 with h | ⟨b, off, h, _⟩
      · exact h.1
      · cases h
    have hz : z = [] := List.eq_nil_of_length_eq_zero hv.1
    clear hv
    have hq := fun W => Lib.run_eql_slice_nil (P := Tryf.prog) W 22 9 none 0 c 0 0 Tryf.underlying22
    simp only [Option.isNone_none] at hq
    go_enter Tryf.func6, Tryf.ntmps6
    go_wp2_with fail
    go_ret
    exact ⟨none, 0, rfl, ⟨HL.out, Nat.zero_le _, by rw [hz]; simp, .inl ⟨rfl, hz⟩⟩, Below.refl _ _, Lib.hid (fun a h => by cases h)⟩
  | some a =>
    have hq := fun W => Lib.run_eql_slice_nil (P := Tryf.prog) W 22 9 (some a) n c 0 0 Tryf.underlying22
    simp only [Option.isNone_some] at hq
    have hsp : n ≤ 0 ∨ ∃ b off, a = ⟨b, off, none⟩ ∧ Hid (∀ i, i < n → w.cell? ⟨b, off + i, none⟩ = some (.string (z.getD i ByteArray.empty))) := by
      rcases hv.split with h | ⟨b, off, h, hc⟩
      · exact .inl h
      · exact .inr ⟨b, off, by injection h, hc⟩
    clear hv
    rcases hsp with h0 | ⟨b0, o0, rfl, hc0⟩
    all_goals
      go_enter Tryf.func6, Tryf.ntmps6
      go_wp2_with (at_make; refine wpList_make_full _ rfl _ _ 22 rfl w.heap.size 9 i0 _ 1 Tryf.underlying22 hi hz0 hz1 _ _ _ _ n rfl rfl rfl rfl (by rw [hz2]; omega) (by unfold maxLen; omega) (Nat.le_refl _) ?_; intro w1 hown1 hg1)
      have e1 : (madeCells (Value.cells (Value.string ByteArray.empty)) (n * 1)).toList = cloneMid z 0 := by
        rw [Nat.mul_one]
        unfold cloneMid
        rw [HL.out]
        rw [List.take_zero, List.map_nil, List.nil_append, Nat.sub_zero]
        exact toList_madeCells_one (.string ByteArray.empty) n
      rw [e1] at hown1
      have hrow1 := Row.of_own hown1
      have hb1 : Below w.heap.size w w1 := (Below.refl _ _).grown hg1 (Nat.le_refl _) (fun _ h => by cases h)
      clear hown1 hg1 e1 hq
      go_loopg [4] n (fun k i wr => ∃ j : Nat, k = n - j ∧ j ≤ n ∧ i = .int .i64 j ∧ Row wr w.heap.size 9 (cloneMid z j) ∧ Below w.heap.size w wr)
      case atStart => exact ⟨0, rfl, Nat.zero_le _, rfl, hrow1, hb1⟩
      case round =>
        obtain ⟨j, hk, hj, rfl, hrow, hbel⟩ := hrel
        have KK := Lib.hid hk; clear hk
        by_cases hlt : j < n
        · first
            | (exfalso; omega)
            | (have hcj := (hbel.cell (p := ⟨b0, o0 + j, none⟩) (World.block_lt_of_cell? _ _ (hc0.out j hlt))).trans (hc0.out j hlt)
               obtain ⟨old, hold⟩ := cloneMid_at z j j (by rw [HL.out]; exact hlt)
               have hco := hrow.cell hold
               have fz := hrow.frozen j
               have hset := hrow.set j (.string (z.getD j ByteArray.empty))
               rw [cloneMid_set z j (by rw [HL.out]; exact hlt)] at hset
               generalize z.getD j ByteArray.empty = sj at hcj hset
               clear hold
               go_wp2_with fail
               go_roundg (n - (j + 1))
               case measure => rw [KK.out]; omega
               case rel => exact ⟨j + 1, rfl, by omega, by go_num, hset, hbel.setCell (p := ⟨w.heap.size, j, none⟩) (Nat.le_refl _) _⟩)
        · obtain rfl : n = j := by omega
          go_wp2_with fail
          go_ret
          refine ⟨some ⟨w.heap.size, 0, none⟩, n, rfl, ⟨HL.out, HV.out.2.1, HV.out.2.2.1, ?_⟩, hbel, Lib.hid (fun a h => by injection h with h; subst h; exact Nat.le_refl _)⟩
          rcases Nat.eq_zero_or_pos n with h | h
          · exact .inl ⟨h, List.eq_nil_of_length_eq_zero (by rw [HL.out]; exact h)⟩
          · refine .inr ⟨w.heap.size, 0, rfl, hrow.lt, fun i hi => ?_⟩
            rw [Nat.zero_add]
            refine hrow.cell ?_
            have := cloneMid_full z i (by rw [HL.out]; exact hi)
            rw [HL.out] at this
            exact this
/-- The row behind j rounds: the first j cells are copies that do not lie in the row itself. -/
def AltMid {α : Type} (S : World → Option Addr → Nat → List α → Prop) (w : World) (g n : Nat) (zss : List (List α)) (j : Nat) (vs : List Value) : Prop :=
  vs.length = n ∧ ∀ i, i < j → ∃ Ai ni ci, vs[i]? = some (.slice Ai ni ci) ∧ S w Ai ni (zss.getD i []) ∧ ∀ a, Ai = some a → a.block ≠ g
theorem AltMid.step {α : Type} {S : World → Option Addr → Nat → List α → Prop} (hK : Kept S) (hG : KeptG S) {w w1 : World} {g n : Nat} {zss : List (List α)} {j : Nat} {vs : List Value} (h : AltMid S w g n zss j vs) (hj : j < n) (hb : Below w.heap.size w w1) (hgl : g < w.heap.size)
    {A : Option Addr} {m c : Nat} (hs : S w1 A m (zss.getD j [])) (hA : ∀ a, A = some a → w.heap.size ≤ a.block) : AltMid S (w1.setCell ⟨g, j, none⟩ (.slice A m c)) g n zss (j + 1) (vs.set j (.slice A m c)) := by
  have hgr : w1.grownBy (w1.setCell ⟨g, j, none⟩ (.slice A m c)) (some g) := grown_setCell (grown_refl w1 (some g)) (p := ⟨g, j, none⟩) (.inl rfl) _
  refine ⟨by rw [List.length_set]; exact h.1, fun i hi => ?_⟩
  rcases Nat.lt_or_ge i j with hij | hij
  · obtain ⟨Ai, ni, ci, h1, h2, h3⟩ := h.2 i hij
    refine ⟨Ai, ni, ci, ?_, hG _ _ _ _ _ _ (hK _ _ _ _ _ h2 hb) hgr h3, h3⟩
    rw [List.getElem?_set, if_neg (by omega)]; exact h1
  · obtain rfl : i = j := by omega
    refine ⟨A, m, c, ?_, hG _ _ _ _ _ _ hs hgr (fun a ha => by have := hA a ha; omega), fun a ha => by have := hA a ha; omega⟩
    rw [List.getElem?_set, if_pos rfl, if_pos (by rw [h.1]; exact hj)]
theorem AltMid.alts {α : Type} {S : World → Option Addr → Nat → List α → Prop} {w : World} {g n : Nat} {t : TypeId} {zss : List (List α)} {vs : List Value} (h : AltMid S w g n zss n vs) (hr : Row w g t vs) (hl : zss.length = n) (hm : n ≤ maxLen) : Alts S w (some ⟨g, 0, none⟩) n zss := by
  refine ⟨hl, hm, ?_⟩
  refine .inr ⟨g, 0, rfl, hr.lt, fun i hi => ?_⟩
  obtain ⟨Ai, ni, ci, h1, h2, _⟩ := h.2 i hi
  exact ⟨Ai, ni, ci, by rw [Nat.zero_add]; exact hr.cell h1, h2⟩
theorem cloneNamesInfo : (Tryf.prog.info? 22).map (fun i => (i.zero, i.size, i.bytes)) = some (some (Value.slice none 0 0), 1, 24) := by kernel_rfl
set_option maxHeartbeats 1000000 in
set_option maxRecDepth 100000 in
theorem cloneNames (A : Option Addr) (n c : Nat) (z : List (List ByteArray)) (w : World) (hv : Alts Strs w A n z) (h1 : n ≤ 1048576) (hin : ∀ i, i < n → (z.getD i []).length ≤ 1048576) : Calls Tryf.prog 11 #[.slice A n c] w (ClonePostF (Alts Strs) w n z) := by
  obtain ⟨i0, hi, hz0, hz1, hz2⟩ := info_parts cloneNamesInfo
  have HL := Lib.hid hv.1
  have HV := Lib.hid hv
  have HIN := Lib.hid hin; clear hin
  cases A with
  | none =>
    obtain rfl : n = 0 := by
      rcases hv.2.2 with h | ⟨b, off, h, _⟩
      · exact h.1
      · cases h
    have hz : z = [] := List.eq_nil_of_length_eq_zero hv.1
    clear hv
    have hq := fun W => Lib.run_eql_slice_nil (P := Tryf.prog) W 31 22 none 0 c 0 0 Tryf.underlying31
    simp only [Option.isNone_none] at hq
    go_enter Tryf.func11, Tryf.ntmps11
    go_wp2_with fail
    go_ret
    exact ⟨none, 0, rfl, ⟨HL.out, Nat.zero_le _, .inl ⟨rfl, hz⟩⟩, Below.refl _ _, Lib.hid (fun a h => by cases h)⟩
  | some a =>
    have hq := fun W => Lib.run_eql_slice_nil (P := Tryf.prog) W 31 22 (some a) n c 0 0 Tryf.underlying31
    simp only [Option.isNone_some] at hq
    clear hv
    go_enter Tryf.func11, Tryf.ntmps11
    go_wp2_with (at_make; refine wpList_make_full _ rfl _ _ 31 rfl w.heap.size 22 i0 _ 1 Tryf.underlying31 hi hz0 hz1 _ _ _ _ n rfl rfl rfl rfl (by rw [hz2]; omega) (by unfold maxLen; omega) (Nat.le_refl _) ?_; intro w1 hown1 hg1)
    have e1 : (madeCells (Value.cells (Value.slice none 0 0)) (n * 1)).toList = List.replicate n (Value.slice none 0 0) := by
      rw [Nat.mul_one]
      exact toList_madeCells_one (.slice none 0 0) n
    rw [e1] at hown1
    have hrow1 := Row.of_own hown1
    have hb1 : Below w.heap.size w w1 := (Below.refl _ _).grown hg1 (Nat.le_refl _) (fun _ h => by cases h)
    clear hown1 hg1 e1 hq
    go_loopg [4] n (fun k i wr => ∃ (j : Nat) (vs : List Value), k = n - j ∧ j ≤ n ∧ i = .int .i64 j ∧ Row wr w.heap.size 22 vs ∧ Hid (AltMid Strs wr w.heap.size n z j vs) ∧ Below w.heap.size w wr)
    case atStart => exact ⟨0, _, rfl, Nat.zero_le _, rfl, hrow1, Lib.hid ⟨by simp, fun i hi => absurd hi (Nat.not_lt_zero _)⟩, hb1⟩
    case round =>
      obtain ⟨j, vs, hk, hj, rfl, hrow, HM, hbel⟩ := hrel
      have KK := Lib.hid hk; clear hk hrow1 hb1
      by_cases hlt : j < n
      · rcases (HV.out.later strs_kept hbel).split with h | ⟨b, off, hab, hc⟩
        · exfalso; omega
        injection hab with hab
        subst hab
        obtain ⟨Ai, ni, ci, hcj, hsi⟩ := hc.out j hlt
        have hni := HIN.out j hlt
        rw [hsi.1] at hni
        have HSI := Lib.hid hsi
        have hi0 : (0 : Int) ≤ (j : Int) := by omega
        have hi1 : (j : Int) < (n : Int) := by omega
        clear hc hsi
        go_wp2_with fail
        refine (cloneStrsF Ai ni ci _ _ HSI.out hni).mono ?_
        rintro e w5 ⟨A5, c5, rfl, hs5, hb5, HA5⟩
        obtain ⟨old, hold⟩ : ∃ u, vs[j]? = some u := ⟨vs[j]'(by rw [HM.out.1]; exact hlt), List.getElem?_eq_getElem _⟩
        have hrow5 := hrow.later hb5
        have hco := hrow5.cell hold
        have fz := hrow5.frozen j
        have hset := hrow5.set j (.slice A5 ni c5)
        have HM5 : Hid (AltMid Strs (w5.setCell ⟨w.heap.size, j, none⟩ (.slice A5 ni c5)) w.heap.size n z (j + 1) (vs.set j (.slice A5 ni c5))) := HM.out.step strs_kept strs_keptG hlt hb5 hrow.lt hs5 HA5.out
        have hbel5 := below_next hb5 (w := w) (W := wr) hbel
        clear hold hs5 hb5 hcj
        go_wp2_with fail
        go_roundg (n - (j + 1))
        case measure => rw [KK.out]; omega
        case rel => exact ⟨j + 1, _, rfl, by omega, by go_num, hset, HM5, hbel5.setCell (p := ⟨w.heap.size, j, none⟩) (Nat.le_refl _) _⟩
      · obtain rfl : n = j := by omega
        go_wp2_with fail
        go_ret
        exact ⟨some ⟨w.heap.size, 0, none⟩, n, rfl, HM.out.alts hrow HL.out HV.out.2.1, hbel, Lib.hid (fun a h => by injection h with h; subst h; exact Nat.le_refl _)⟩
namespace fnInc
set_option maxHeartbeats 4000000 in
set_option maxRecDepth 100000 in
theorem zz (A0 : Option Addr) (n0 c0 : Nat) (z0 : List ByteArray) (A1 : Option Addr) (n1 c1 : Nat) (z1 : List (List ByteArray)) (a2 a3 : Int) (t : ByteArray) (w : World) (hv0 : Strs w A0 n0 z0) (hv : Alts Strs w A1 n1 z1) (ht : t.size ≤ maxLen) :
    Calls Tryf.prog 9 #[.slice A0 n0 c0, .slice A1 n1 c1, .int .i64 a2, .int .i64 a3, .string t] w (fun e w' => ∃ b, e = .returned (.bool b) ∧ w = w' ∧ (b = true → ∀ i, i < n1 → (z1.getD i []).length ≤ 1048576)) := by
  have h0 := hv0.2.1
  have h1 := hv.2.1
  have HL1 := Lib.hid hv.1
  have HV1 := Lib.hid hv
  have HV0 := Lib.hid hv0
  unfold maxLen at h0 h1 ht
  clear hv hv0
  go_enter Tryf.func9, Tryf.ntmps9
  go_wp2_with fail
  all_goals try (go_ret; exact ⟨_, rfl, rfl, fun h => Bool.noConfusion h⟩)
  go_loopg [10, 11, 12] n0 (fun k u z i wq => ∃ j m : Nat, k = n0 - j ∧ j ≤ n0 ∧ m ≤ 1048576 ∧ z = .int .i64 m ∧ i = .int .i64 j ∧ wq = w ∧ u = .bool false)
  case atStart => exact ⟨0, n0, rfl, Nat.zero_le _, by omega, rfl, rfl, rfl, rfl⟩
  case round =>
    obtain ⟨j, m, hk, hj, hm, rfl, rfl, rfl, rfl⟩ := hrel
    have KK := Lib.hid hk; clear hk
    by_cases hlt : j < n0
    · rcases HV0.out.split with h | ⟨b, off, rfl, hc⟩
      · exfalso; omega
      have hcj := hc.out j hlt
      have hsj := HV0.out.size j
      clear hc
      generalize z0.getD j ByteArray.empty = sj at hcj hsj
      have hi0 : (0 : Int) ≤ (j : Int) := by omega
      have hi1 : (j : Int) < (n0 : Int) := by omega
      go_wp2_with fail
      all_goals first
        | (go_ret; exact ⟨_, rfl, rfl, fun h => Bool.noConfusion h⟩)
        | (go_roundg (n0 - (j + 1))
           case measure => rw [KK.out]; omega
           case rel => exact ⟨j + 1, m + sj.size, rfl, by omega, by omega, by go_num, by go_num, rfl, rfl⟩)
    · clear KK
      obtain ⟨m1, rfl⟩ : ∃ x, x = m := ⟨_, rfl⟩
      go_wp2_with fail
      all_goals try (go_ret; exact ⟨_, rfl, rfl, fun h => Bool.noConfusion h⟩)
      obtain ⟨q1, hq1⟩ : ∃ x, x = m1 + n1 := ⟨_, rfl⟩
      have q1b : q1 ≤ 1048576 := by omega
      rw [show (m1 : Int) + (n1 : Int) = (q1 : Int) by omega]
      clear hq1
      obtain ⟨wo, rfl⟩ : ∃ x, x = wr := ⟨_, rfl⟩
      go_loopg [10, 11, 13] n1 (fun k u z i wq => ∃ j m : Nat, k = n1 - j ∧ j ≤ n1 ∧ m ≤ 1048576 ∧ z = .int .i64 m ∧ i = .int .i64 j ∧ wq = wo ∧ u = .bool false ∧ Hid (∀ i, i < j → (z1.getD i []).length ≤ 1048576))
      case atStart => exact ⟨0, q1, rfl, Nat.zero_le _, by omega, rfl, rfl, rfl, rfl, Lib.hid (fun i hi => absurd hi (Nat.not_lt_zero _))⟩
      case round =>
        obtain ⟨j, m, hk, hj, hm, rfl, rfl, rfl, rfl, HM⟩ := hrel
        have KK := Lib.hid hk; clear hk
        by_cases hlt : j < n1
        · rcases HV1.out.split with h | ⟨b, off, rfl, hc⟩
          · exfalso; omega
          obtain ⟨Ai, ni, ci, hcj, hsi⟩ := hc.out j hlt
          have hni := hsi.2.1
          unfold maxLen at hni
          have HLI := Lib.hid hsi.1
          have HSI := Lib.hid hsi
          clear hc hsi
          have hi0 : (0 : Int) ≤ (j : Int) := by omega
          have hi1 : (j : Int) < (n1 : Int) := by omega
          go_wp2_with fail
          all_goals try (go_ret; exact ⟨_, rfl, rfl, fun h => Bool.noConfusion h⟩)
          obtain ⟨mi, hmi⟩ : ∃ mi, mi = m + ni := ⟨_, rfl⟩
          have hmi3 : mi ≤ 1048576 := by omega
          rw [show (m : Int) + (ni : Int) = (mi : Int) by omega]
          have HM2 : Hid (∀ i, i < j + 1 → (z1.getD i []).length ≤ 1048576) := Lib.hid (fun i hi => by
            rcases Nat.lt_or_ge i j with g | g
            · exact HM.out i g
            · obtain rfl : i = j := by omega
              rw [HLI.out]; omega)
          clear hmi HM
          obtain ⟨zj, hzj⟩ : ∃ x, x = z1.getD j [] := ⟨_, rfl⟩
          rw [← hzj] at HLI HSI
          clear hzj
          obtain ⟨wo2, rfl⟩ : ∃ x, x = wr := ⟨_, rfl⟩
          go_loopg [10, 11, 14] ni (fun k u z i wx => ∃ l q : Nat, k = ni - l ∧ l ≤ ni ∧ q ≤ 1048576 ∧ z = .int .i64 q ∧ i = .int .i64 l ∧ wx = wo2 ∧ u = .bool false)
          case atStart => exact ⟨0, mi, rfl, Nat.zero_le _, by omega, rfl, rfl, rfl, rfl⟩
          case round =>
            obtain ⟨l, q, hk, hl, hq, rfl, rfl, rfl, rfl⟩ := hrel
            have KI := Lib.hid hk; clear hk
            by_cases hlt2 : l < ni
            · rcases HSI.out.split with h | ⟨b2, off2, rfl, hc⟩
              · exfalso; omega
              have hcl := hc.out l hlt2
              have hsl := HSI.out.size l
              clear hc
              generalize zj.getD l ByteArray.empty = sl at hcl hsl
              have hl0 : (0 : Int) ≤ (l : Int) := by omega
              have hl1 : (l : Int) < (ni : Int) := by omega
              go_wp2_with fail
              all_goals first
                | (go_ret; exact ⟨_, rfl, rfl, fun h => Bool.noConfusion h⟩)
                | (go_roundg (ni - (l + 1))
                   case measure => rw [KI.out]; omega
                   case rel => exact ⟨l + 1, q + sl.size, rfl, by omega, by omega, by go_num, by go_num, rfl, rfl⟩)
            · clear KI
              go_wp2_with fail
              go_roundg (n1 - (j + 1))
              case measure => rw [KK.out]; omega
              case rel => exact ⟨j + 1, q, rfl, by omega, by omega, rfl, by go_num, rfl, rfl, HM2⟩
        · have hfin : j = n1 := by omega
          subst hfin
          clear KK
          go_wp2_with fail
          all_goals first
            | (go_ret; exact ⟨_, rfl, rfl, fun h => Bool.noConfusion h⟩)
            | (go_ret; exact ⟨_, rfl, rfl, fun _ => HM.out⟩)
def NAPost (w : World) (z : List ByteArray) (e : Ending) (w' : World) : Prop := ∃ Ai ni ci, e = .returned (.slice Ai ni ci) ∧ w = w' ∧ Strs w Ai ni z
set_option maxRecDepth 100000 in
theorem names_at (A1 : Option Addr) (n1 c1 : Nat) (z1 : List (List ByteArray)) (j : Nat) (w : World) (hv : Alts Strs w A1 n1 z1) (hj : j ≤ 1048576) :
    Calls Tryf.prog 10 #[.slice A1 n1 c1, .int .i64 j] w (NAPost w (z1.getD j [])) := by
  have h1 := hv.2.1
  unfold maxLen at h1
  have HV := Lib.hid hv
  clear hv
  by_cases hlt : j < n1
  · rcases HV.out.split with h | ⟨b, off, rfl, hc⟩
    · exfalso; omega
    obtain ⟨Ai, ni, ci, hcj, hsi⟩ := hc.out j hlt
    have HSI := Lib.hid hsi
    clear hc hsi
    have hi0 : (0 : Int) ≤ (j : Int) := by omega
    have hi1 : (j : Int) < (n1 : Int) := by omega
    go_enter Tryf.func10, Tryf.ntmps10
    go_wp2_with fail
    go_ret
    exact ⟨_, _, _, rfl, rfl, HSI.out⟩
  · have hi0 : (0 : Int) ≤ (j : Int) := by omega
    have hi1 : ¬ (j : Int) < (n1 : Int) := by omega
    have HE : Hid (z1.getD j [] = []) := Lib.hid (by rw [List.getD_eq_getElem?_getD, List.getElem?_eq_none (by rw [HV.out.1]; omega)]; rfl)
    go_enter Tryf.func10, Tryf.ntmps10
    go_wp2_with fail
    go_ret
    have hs0 : Strs w none 0 (z1.getD j []) := by
      rw [HE.out]
      exact ⟨rfl, Nat.zero_le _, by simp, .inl ⟨rfl, rfl⟩⟩
    exact ⟨none, 0, 0, rfl, rfl, hs0⟩
end fnInc
end Go.Proofs.YtlahcemjknffnaaFmt
