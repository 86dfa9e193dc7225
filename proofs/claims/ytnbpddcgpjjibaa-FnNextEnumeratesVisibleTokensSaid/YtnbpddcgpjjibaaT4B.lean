/-
  Contracts of the helpers of n025_4, second part: the stops, the first EOF, cursors, fresh lexers. Conditions: the rows are as 'Row', 'BSet' and 'Lx' say.
-/
import Derived.Test.YtnbpddcgpjjibaaT4
namespace Go.Proofs.Ytnbpddcgpjjibaa
open Go.RowKit
set_option linter.unusedSimpArgs false
set_option linter.unusedVariables false

/-! ### zzStops -/
def stMid (S : Int → Bool) (T : List Int) (n j : Nat) : List Value := (List.range n).map fun i => .int .i64 (if i < j then 0 else (PL.stop S T i : Nat) : Int)
theorem stMid_length (S : Int → Bool) (T : List Int) (n j : Nat) : (stMid S T n j).length = n := by simp [stMid]
theorem stMid_at {S : Int → Bool} {T : List Int} {n j i : Nat} (hi : i < n) : (stMid S T n j)[i]? = some (.int .i64 (if i < j then 0 else (PL.stop S T i : Nat) : Int)) := by
  simp [stMid, List.getElem?_range hi]
theorem stMid_set (S : Int → Bool) (T : List Int) (n m : Nat) : (stMid S T n (m + 1)).set m (.int .i64 (PL.stop S T m : Nat)) = stMid S T n m := by
  apply List.ext_getElem?
  intro i
  rw [List.getElem?_set, stMid_length]
  rcases Nat.lt_or_ge i n with h | h
  · rw [stMid_at h, stMid_at h]
    by_cases e : m = i
    · subst e; simp [h]
    · have : (i < m + 1) = (i < m) := by simp; omega
      simp only [e, if_false, this]
  · rw [List.getElem?_eq_none (by rw [stMid_length]; exact h), List.getElem?_eq_none (by rw [stMid_length]; exact h)]
    split
    · rw [if_neg (by omega)]
    · rfl
theorem stMid_made (S : Int → Bool) (T : List Int) (n : Nat) : List.replicate n (Value.int .i64 0) = stMid S T n n := by
  apply List.ext_getElem?
  intro i
  rcases Nat.lt_or_ge i n with h | h
  · rw [stMid_at h, List.getElem?_replicate, if_pos h, if_pos h]
  · rw [List.getElem?_eq_none (by simp; exact h), List.getElem?_eq_none (by rw [stMid_length]; exact h)]
/-- What zzStops leaves: a slice whose i-th entry is the nearest stop from i on. -/
def StopsPost (w : World) (S : Int → Bool) (T : List Int) (n : Nat) (e : Ending) (w' : World) : Prop :=
  ∃ g cap, e = .returned (.slice (some ⟨g, 0, none⟩) n cap) ∧ w.heap.size ≤ g ∧ Row w' g 3 (stMid S T n 0) ∧ Below w.heap.size w w'
theorem Row.stop {w : World} {g : Nat} {t : TypeId} {S : Int → Bool} {T : List Int} {n i : Nat} (h : Row w g t (stMid S T n 0)) (hi : i < n) : w.cell? ⟨g, i, none⟩ = some (.int .i64 (PL.stop S T i : Nat)) :=
  h.cell (stMid_at hi)

set_option maxHeartbeats 1000000 in
set_option maxRecDepth 100000 in
theorem stops_any (w : World) (tb mb c nm : Nat) (L : List Tok) (S : Int → Bool) (hr : Row w tb 47 (toksCells L)) (hs : BSet Try.prog 45 4 w mb nm S) (hw : ∀ t ∈ L, (Lit.int .i64 t.ty).wf = true)
    (hl : L.length ≤ 1048576) (hl0 : 0 < L.length) (hlast : PL.at_ (types L) (L.length - 1) = -1) :
    Calls Try.prog 43 #[.slice (some ⟨tb, 0, none⟩) L.length c, .map (some mb)] w (StopsPost w S (types L) L.length) := by
  obtain ⟨i0, hi, hz0, hz1, hz2⟩ := info_parts intInfo
  have HW := Lib.hid hw; clear hw
  have HLA := Lib.hid hlast; clear hlast
  obtain ⟨n, hn⟩ : ∃ n, n = L.length := ⟨_, rfl⟩
  have HN := Lib.hid hn
  rw [← hn] at hl hl0 ⊢
  clear hn
  go_enter Try.func43, Try.ntmps43
  go_wp2_with (at_make; refine wpList_make_full _ rfl _ _ 55 rfl w.heap.size 3 i0 _ 1 Try.underlying55 hi hz0 hz1 _ _ _ _ n rfl rfl rfl rfl (by rw [hz2]; omega) (by unfold maxLen; omega) (Nat.le_refl _) ?_; intro w1 hown1 hg1)
  have e1 : (madeCells (Value.cells (Value.int .i64 0)) (n * 1)).toList = stMid S (types L) n n := by
    rw [Nat.mul_one, ← stMid_made]; exact toList_madeCells_one _ _
  rw [e1] at hown1
  have hrow1 := Row.of_own hown1
  have hb1 : Below w.heap.size w w1 := (Below.refl _ _).grown hg1 (Nat.le_refl _) (fun _ h => by cases h)
  clear hown1 hg1 e1
  go_loopg [7, 8] n (fun k i _ wr => ∃ (j : Nat) (q : Int), k = j ∧ j ≤ n ∧ q = (j : Int) - 1 ∧ i = .int .i64 q ∧ Row wr w.heap.size 3 (stMid S (types L) n j) ∧ Below w.heap.size w wr)
  case atStart => exact ⟨n, (n : Int) - 1, rfl, Nat.le_refl _, rfl, rfl, hrow1, hb1⟩
  case round =>
    obtain ⟨j, q, hk, hj, hq, rfl, hrow, hbel⟩ := hrel
    have KK := Lib.hid hk; clear hk
    by_cases hlt : 0 < j
    · obtain ⟨m, rfl⟩ : ∃ m : Nat, q = m := ⟨j - 1, by omega⟩
      have hjm : j = m + 1 := by omega
      have hmn : m < n := by omega
      have HJ := Lib.hid hjm; clear hjm hq
      have hr1 := hr.later hbel
      have hs1 := hs.later hbel
      obtain ⟨t, HT, t0, t1, t2, t3, t4, t5⟩ := hr1.tok (i := m) (by rw [← HN.out]; exact hmn)
      have hwf : (Lit.int .i64 t.ty).wf = true := HW.out _ (by rw [HT.out, List.getD_eq_getElem?_getD, List.getElem?_eq_getElem (by rw [← HN.out]; exact hmn)]; simp)
      have hlk := fun o => (hs1.alloc o).run Try.underlying45 Try.underlying4 Try.underlying39 (zeroBool _) hwf
      have hm0 : (0 : Int) ≤ (m : Int) := by omega
      have hm1 : (m : Int) < (n : Int) := by omega
      have hist : PL.isStop S (types L) m = (t.ty == -1 || !S t.ty) := by unfold PL.isStop; rw [at_types, ← HT.out]
      have HI := Lib.hid hist; clear hist
      have hglt := hrow.lt
      have fz := hrow.frozen m
      have hcm := hrow.cell (stMid_at (S := S) (T := types L) (n := n) (j := j) (i := m) hmn)
      generalize (if m < j then (0 : Int) else (PL.stop S (types L) m : Nat)) = old at hcm
      have hsc := (hrow.set m (.int .i64 (PL.stop S (types L) m : Nat)))
      rw [HJ.out, stMid_set] at hsc
      by_cases hE : t.ty = -1
      · have hE' : (t.ty == -1) = true := by simp [hE]
        have hst : PL.stop S (types L) m = m := PL.stop_of_stop (by rw [HI.out, hE']; rfl)
        rw [hst] at hsc
        clear hE hst hlk
        go_wp2_with fail
        go_roundg m
        case measure => rw [KK.out, HJ.out]; omega
        case rel => exact ⟨m, (m : Int) - 1, rfl, by omega, rfl, rfl, hsc.alloc _, (hbel.setCell (Nat.le_refl _) _).alloc (by simp; omega) _⟩
      · have hE' : (t.ty == -1) = false := by simp [hE]
        clear hE
        cases hS : S t.ty
        · have hst : PL.stop S (types L) m = m := PL.stop_of_stop (by rw [HI.out, hE', hS]; rfl)
          rw [hst] at hsc
          clear hst
          go_wp2_with fail
          go_roundg m
          case measure => rw [KK.out, HJ.out]; omega
          case rel => exact ⟨m, (m : Int) - 1, rfl, by omega, rfl, rfl, hsc.alloc _, (hbel.setCell (Nat.le_refl _) _).alloc (by simp; omega) _⟩
        · have hns : PL.isStop S (types L) m = false := by rw [HI.out, hE', hS]; rfl
          have hst : PL.stop S (types L) m = PL.stop S (types L) (m + 1) := PL.stop_of_not hns
          have hne : m ≠ n - 1 := fun e => by
            have := HLA.out
            rw [← HN.out, ← e, at_types, ← HT.out] at this
            rw [this] at hE'
            cases hE'
          have hnx : m + 1 < n := by omega
          have hc1 := hrow.cell (stMid_at (S := S) (T := types L) (n := n) (j := j) (i := m + 1) hnx)
          rw [if_neg (by rw [HJ.out]; omega), ← hst] at hc1
          have hd : ((m : Int) == (n : Int) - 1) = false := by simp; omega
          generalize PL.stop S (types L) m = q at *
          clear hns hst hne
          go_wp2_with fail
          go_roundg m
          case measure => rw [KK.out, HJ.out]; omega
          case rel => exact ⟨m, (m : Int) - 1, rfl, by omega, rfl, rfl, hsc.alloc _, (hbel.setCell (Nat.le_refl _) _).alloc (by simp; omega) _⟩
    · obtain rfl : j = 0 := by omega
      have hq0 : q < 0 := by omega
      clear hq
      go_wp2_with fail
      go_ret
      exact ⟨w.heap.size, n, rfl, Nat.le_refl _, hrow, hbel⟩

/-! ### zzEOF -/
theorem feof_of {T : List Int} {E : Nat} (hF : PL.First T E) {i : Nat} (h : PL.at_ T i = -1) (hn : ∀ k, k < i → PL.at_ T k ≠ -1) : i = E := hF.eq (E' := i) ⟨h, hn⟩ |>.symm
set_option maxRecDepth 100000 in
theorem zeof_any (w : World) (tb c : Nat) (L : List Tok) (hr : Row w tb 47 (toksCells L)) (hl : L.length ≤ 1048576) (E : Nat) (hF : PL.First (types L) E) (hE : E < L.length) :
    Calls Try.prog 44 #[.slice (some ⟨tb, 0, none⟩) L.length c] w fun e w' => e = .returned (.int .i64 (E : Nat)) ∧ w = w' := by
  have HF := Lib.hid hF; clear hF
  obtain ⟨n, hn⟩ : ∃ n, n = L.length := ⟨_, rfl⟩
  have HN := Lib.hid hn
  rw [← hn] at hl hE ⊢
  clear hn
  go_enter Try.func44, Try.ntmps44
  go_wp2_with fail
  go_loopg [3] n (fun k i wr => ∃ j : Nat, k = n - j ∧ j ≤ E ∧ i = .int .i64 j ∧ wr = w)
  case atStart => exact ⟨0, rfl, Nat.zero_le _, rfl, rfl⟩
  case round =>
    obtain ⟨j, hk, hj, rfl, rfl⟩ := hrel
    have KK := Lib.hid hk; clear hk
    obtain ⟨t, HT, t0, t1, t2, t3, t4, t5⟩ := hr.tok (i := j) (by rw [← HN.out]; omega)
    have hat : PL.at_ (types L) j = t.ty := by rw [at_types, ← HT.out]
    have HA := Lib.hid hat; clear hat
    have hjn : j < n := by omega
    by_cases hjE : j < E
    · have hne : (t.ty == -1) = false := by
        have := HF.out.none j hjE
        rw [HA.out] at this
        simpa using this
      go_wp2_with fail
      go_roundg (n - (j + 1))
      case measure => rw [KK.out]; omega
      case rel => exact ⟨j + 1, rfl, by omega, by go_num, rfl⟩
    · obtain rfl : E = j := by omega
      have hne : (t.ty == -1) = true := by
        have := HF.out.eof
        rw [HA.out] at this
        simpa using this
      go_wp2_with fail
      go_ret
      exact ⟨rfl, rfl⟩

/-! ### lexers and cursors -/
theorem curs_any (w : World) (pb tb mb c nm : Nat) (L : List Tok) (S : Int → Bool) (raw next cur : Int) (h : Lx w pb tb mb c nm L S raw next cur) :
    Calls Try.prog 45 #[.pointer (some ⟨pb, 0, none⟩)] w fun e w' => e = .returned (.tuple #[.int .i64 raw, .int .i64 next, .int .i64 cur]) ∧ ∃ q, w' = w.drewN q := by
  obtain ⟨c0, c1, c2, c3, c4⟩ := h.cells
  clear h
  go_enter Try.func45, Try.ntmps45
  go_wp2_with fail
  go_quiet (fail)
  go_wp2_with fail
  go_ret3
  exact ⟨rfl, _, rfl⟩
theorem new4_any (w : World) (tb mb c nm : Nat) (L : List Tok) (S : Int → Bool) (raw next cur : Int) (hr : Row w tb 47 (toksCells L)) (hs : BSet Try.prog 45 4 w mb nm S) (hw : ∀ t ∈ L, (Lit.int .i64 t.ty).wf = true)
    (hl : L.length ≤ 1048576) :
    Calls Try.prog 48 #[.slice (some ⟨tb, 0, none⟩) L.length c, .map (some mb), .int .i64 raw, .int .i64 next, .int .i64 cur] w fun e w' =>
      e = .returned (.pointer (some ⟨w.heap.size, 0, none⟩)) ∧ Lx w' w.heap.size tb mb c nm L S raw next cur ∧ Below w.heap.size w w' := by
  have hx : Lx (w.alloc (.cells #[.int .i64 raw, .int .i64 next, .int .i64 cur, .slice (some ⟨tb, 0, none⟩) L.length c, .map (some mb)] 41)) w.heap.size tb mb c nm L S raw next cur :=
    ⟨Blk.new _ _ _, hr.alloc _, hs.alloc _, hw, by omega⟩
  have HX := Lib.hid hx; clear hx
  clear hr hs hw hl
  go_enter Try.func48, Try.ntmps48
  go_wp2_with fail
  go_ret
  exact ⟨rfl, HX.out, (Below.refl _ _).alloc (Nat.le_refl _) _⟩
theorem advz_any (w : World) (pb tb mb c nm : Nat) (L : List Tok) (S : Int → Bool) (raw cur : Int) (n : Nat) (h : Lx w pb tb mb c nm L S raw n cur) (hs : PL.stop S (types L) n < L.length) :
    Calls Try.prog 49 #[.pointer (some ⟨pb, 0, none⟩)] w (Adv w pb tb mb c nm L S raw cur n) := by
  go_enter Try.func49, Try.ntmps49
  go_wp2_with fail
  refine (adv_any _ pb tb mb c nm L S _ _ n h hs).mono ?_
  rintro e w2 ⟨rfl, hg, hx⟩
  go_wp2_with fail
  go_end0
  exact ⟨rfl, hg, hx⟩
def FreshPost (w : World) (tb mb c nm : Nat) (L : List Tok) (S : Int → Bool) (s : PL.St) (e : Ending) (w' : World) : Prop :=
  ∃ pb, e = .returned (.pointer (some ⟨pb, 0, none⟩)) ∧ w.heap.size ≤ pb ∧ Lx w' pb tb mb c nm L S s.raw s.next s.cur ∧ Below w.heap.size w w'
theorem fresh_any (w : World) (tb mb c nm : Nat) (L : List Tok) (S : Int → Bool) (hr : Row w tb 47 (toksCells L)) (hs : BSet Try.prog 45 4 w mb nm S) (hw : ∀ t ∈ L, (Lit.int .i64 t.ty).wf = true)
    (hl : L.length ≤ 1048576) (E : Nat) (hF : PL.First (types L) E) (hE : E < L.length) :
    Calls Try.prog 40 #[.slice (some ⟨tb, 0, none⟩) L.length c, .map (some mb)] w (FreshPost w tb mb c nm L S (PL.fresh S (types L))) := by
  have hsl : PL.stop S (types L) 0 < L.length := Nat.lt_of_le_of_lt (hF.stop_le (Nat.zero_le _)) hE
  have HF := Lib.hid hF; clear hF
  have HW := Lib.hid hw; clear hw
  go_enter Try.func40, Try.ntmps40
  go_wp2_with fail
  refine (new4_any _ tb mb c nm L S 0 0 0 hr hs HW.out hl).mono ?_
  rintro e w1 ⟨rfl, hx1, hb1⟩
  go_wp2_with fail
  refine (advz_any _ w.heap.size tb mb c nm L S 0 0 0 hx1 hsl).mono ?_
  rintro e w2 ⟨rfl, hg2, hx2⟩
  go_wp2_with fail
  go_ret
  exact ⟨w.heap.size, rfl, Nat.le_refl _, hx2, hb1.grown hg2 hb1.size (fun k hk => by injection hk with hk; omega)⟩
theorem same_any (w : World) (pb tb mb c nm pb' tb' mb' c' nm' : Nat) (L L' : List Tok) (S S' : Int → Bool) (raw next cur : Int) (h : Lx w pb tb mb c nm L S raw next cur) (h' : Lx w pb' tb' mb' c' nm' L' S' raw next cur) :
    Calls Try.prog 41 #[.pointer (some ⟨pb, 0, none⟩), .pointer (some ⟨pb', 0, none⟩)] w fun e w' => e = .returned (.bool true) ∧ ∃ q, w' = w.drewN q := by
  go_enter Try.func41, Try.ntmps41
  go_wp2_with fail
  refine (curs_any _ pb tb mb c nm L S _ _ _ h).mono ?_
  rintro e w1 ⟨rfl, q, hw1⟩
  have h1 : Lx w1 pb' tb' mb' c' nm' L' S' raw next cur := by rw [hw1]; exact h'.drewN q
  have HW1 := Lib.hid hw1; clear hw1
  go_wp2_with fail
  refine (curs_any _ pb' tb' mb' c' nm' L' S' _ _ _ h1).mono ?_
  rintro e w2 ⟨rfl, q2, hw2⟩
  have HW2 := Lib.hid hw2; clear hw2
  go_wp2_with fail
  go_ret
  exact ⟨rfl, q + q2, by rw [HW2.out, HW1.out, World.drewN_drewN]⟩
def BoolAny (w : World) (e : Ending) (w' : World) : Prop := ∃ b, e = .returned (.bool b) ∧ w = w'
end Go.Proofs.Ytnbpddcgpjjibaa
