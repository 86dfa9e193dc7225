/-
  The two actions of a StatefulLexer: push and pop. Conditions: sizes as stated.
-/
import Derived.Test.YtjgmknlkgpfpkaaJ1
namespace Go.Proofs.Ytjgmknlkgpfpkaa
open Go.RowKit
set_option linter.unusedSimpArgs false
set_option linter.unusedVariables false
theorem toList_empty (s : ByteArray) : s.toList.isEmpty = decide (s.size = 0) := by
  rw [ByteArray.toList_eq, Bool.eq_iff_iff, List.isEmpty_iff, decide_eq_true_eq, ← List.length_eq_zero_iff]
  simp
theorem stInfo : (Try.prog.info? 49).map (fun i => (i.zero, i.size, i.bytes)) = some (some (Value.agg #[.string ByteArray.empty, .slice none 0 0]), 2, 40) := by kernel_rfl
theorem new_any (s : ByteArray) (w : World) : Calls Try.prog 28 #[.string s] w fun e w' => ∃ t v, e = .returned (.iface t v) ∧ Below w.heap.size w w' := by
  go_enter Try.func28, Try.ntmps28
  go_wp2_with fail
  go_ret
  exact ⟨_, _, rfl, (Below.refl _ _).alloc (Nat.le_refl _) _⟩
theorem news22 {w : World} {o1 : Obj} {a b : Value} {t : TypeId} : ∀ (j : Nat) (u : Value), [a, b][j]? = some u → ((w.alloc o1).alloc (.cells #[a, b] t)).drew.cell? ((⟨w.heap.size + 1, 0, none⟩ : Addr).add j) = some u := by
  have e : w.heap.size + 1 = (w.alloc o1).heap.size := by simp
  rw [e]
  exact World.news_of_block (heap_alloc_new _ _)
def PushPost (lo : Nat) (w : World) (b : Nat) (v : Value) (es : List Ent) (x : Ent) (e : Ending) (w' : World) : Prop :=
  e = .returned .nilIface ∧ (∃ v', StkO lo w' b v' (es ++ [x])) ∧ Below lo w w' ∧
  (∀ i, i < w.heap.size → i ≠ b → some i ≠ v.ownBlock → w'.heap[i]? = w.heap[i]?) ∧ ∀ r xs, Row w r 9 xs → Row w' r 9 xs
theorem lt_of_get {α : Type} {xs : List α} {i : Nat} {x : α} (h : xs[i]? = some x) : i < xs.length := (List.getElem?_eq_some_iff.1 h).1
set_option maxHeartbeats 2000000 in
set_option maxRecDepth 100000 in
theorem push_any (lo : Nat) (st : ByteArray) (b : Nat) (v : Value) (es : List Ent) (A : Option Addr) (n c : Nat) (gs : List ByteArray) (w : World) (hst : StkO lo w b v es) (hg : GS w A n gs) (hn : es.length ≤ 1048576) (hlo : lo ≤ w.heap.size)
    (h0 : 0 < (gs.getD 0 ByteArray.empty).size) : Calls Try.prog 26 #[.agg #[.string st], .pointer (some ⟨b, 0, none⟩), .slice A n c] w (PushPost lo w b v es ⟨st, A, n, c, gs⟩) := by
  obtain ⟨i0, hi, hz0, hz1, hz2⟩ := info_parts stInfo
  obtain ⟨g1, g2⟩ := hg
  obtain ⟨r, rfl, hr⟩ : ∃ r, A = some ⟨r, 0, none⟩ ∧ Row w r 9 (gs.map Value.string) := by
    rcases g2 with ⟨-, e⟩ | h
    · rw [e] at h0; exact absurd h0 (by decide)
    · exact h
  have hc0 : w.cell? ⟨r, 0, none⟩ = some (.string (gs.getD 0 ByteArray.empty)) := by
    refine hr.cell ?_
    cases gs with
    | nil => exact absurd h0 (by decide)
    | cons x q => rfl
  have hn0 : 0 < n := by
    rw [g1]
    cases gs with
    | nil => exact absurd h0 (by decide)
    | cons x q => simp
  have he : (gs.getD 0 ByteArray.empty).toList.isEmpty = false := by rw [toList_empty, decide_eq_false_iff_not]; omega
  obtain ⟨s1, s2, s3, s4⟩ := hst
  have HG1 := Lib.hid g1
  have HS4 := Lib.hid s4
  generalize gs.getD 0 ByteArray.empty = s0 at hc0 he
  have hQ := s2.cell
  have hlt := s2.lt
  have hin : (0 : Int) < (n : Int) := by omega
  clear g1 g2 s4 h0
  go_enter Try.func26, Try.ntmps26
  have a1 := fun o => (s2.alloc o).cell
  have a2 := fun o => cell_alloc hc0 o
  have a3 := fun o o' => ((s2.alloc o).alloc o').cell
  go_wp2_with fail
  go_region_law (
    refine step_append_lies _ (by rfl) _ _ _ (by rfl) lo 49 i0 _ 2 40 Try.underlying39 hi hz0 hz1 hz2 rfl (by omega) v es.length (entCells es) (by rfl) (((s3.alloc _).alloc _).drew) ⟨w.heap.size + 1, 0, none⟩ 1 1 [.string st, .slice (some ⟨r, 0, none⟩) n c] (by rfl) (by rfl) news22 (by simp [Value.oneCell']) (by omega) (by unfold maxLen; omega) (by omega) (by simp; omega) (w.heap.size + 1 + 1) (by simp) ?_
    intro g2 cap2 w9 hown9 hg9 hat hlt9
    have hlx9 : Lx w9 b v := by
      obtain ⟨cs, h, h0⟩ := s2
      exact ⟨cs, ((h.alloc _).alloc _).drew.grown hg9 (own_ne_blk s3 h (by decide)), h0⟩
    have hQ9 := hlx9.cell
    have fz9 := hlx9.frozen)
  all_goals
    have hsz2 : lo ≤ (((w.alloc (.cells #[.string st] 55)).alloc (.cells #[.string st, .slice (some ⟨r, 0, none⟩) n c] 49)).drew).heap.size := by simp; omega
    have hb9 : Below lo w w9 := ((((Below.refl lo w).alloc hlo _).alloc (by simp; omega) _).drew).grown hg9 hsz2 (own_base s3)
    have hstr : ∀ q xs, Row w q 9 xs → Row (w9.setCell ⟨b, 0, none⟩ (.slice (some ⟨g2, 0, none⟩) (es.length + 1) cap2)) q 9 xs := fun q xs h => by
      obtain ⟨cs, hb, h0⟩ := s2
      exact (((h.alloc _).alloc _).drew.grown hg9 (own_ne_row s3 h (by decide))).far (p := ⟨b, 0, none⟩) (h.ne_blk hb (by decide)) _
    have hST : Hid (StkO lo (w9.setCell ⟨b, 0, none⟩ (.slice (some ⟨g2, 0, none⟩) (es.length + 1) cap2)) b (.slice (some ⟨g2, 0, none⟩) (es.length + 1) cap2) (es ++ [⟨st, some ⟨r, 0, none⟩, n, c, gs⟩])) := by
      refine ⟨s1, hlx9.set _, ?_, fun e he => ?_⟩
      · rw [List.length_append, entCells_append]
        obtain ⟨cs, hb, h0⟩ := hlx9
        exact own_far hown9 hb (by decide) 0 _
      · rcases List.mem_append.1 he with h | h
        · exact (HS4.out e h).keep hstr
        · simp at h
          subst h
          exact ⟨HG1.out, .inr ⟨r, rfl, hstr _ _ hr⟩⟩
    have hoth : Hid (∀ i, i < w.heap.size → i ≠ b → some i ≠ v.ownBlock → (w9.setCell ⟨b, 0, none⟩ (.slice (some ⟨g2, 0, none⟩) (es.length + 1) cap2)).heap[i]? = w.heap[i]?) := fun i hi hne hown => by
      refine (Below.heap_setCell w9 ⟨b, 0, none⟩ _ i hne).trans ((hg9.block i (by show i < ((w.alloc _).alloc _).heap.size; simp; omega) hown).trans ?_)
      exact (Below.heap_alloc _ _ i (by simp; omega)).trans (Below.heap_alloc w _ i hi)
    have HB := Lib.hid (hb9.setCell (p := ⟨b, 0, none⟩) s1 (.slice (some ⟨g2, 0, none⟩) (es.length + 1) cap2))
    have HSTR := Lib.hid hstr
    clear hstr hb9 hsz2 hown9 hg9 hat hlt9 hQ9 fz9 hlx9
    go_wp2_with fail
    go_ret
    exact ⟨rfl, ⟨_, hST⟩, HB.out, hoth, HSTR.out⟩
/-- What a consuming pop leaves: the entries below; nothing else is written but the lexer's block. -/
def PopPost (lo : Nat) (w : World) (b : Nat) (es : List Ent) (e : Ending) (w' : World) : Prop :=
  e = .returned .nilIface ∧ StkR lo w' b es ∧ Below lo w w' ∧ (∀ i, i < w.heap.size → i ≠ b → w'.heap[i]? = w.heap[i]?) ∧ ∀ r xs, Row w r 9 xs → Row w' r 9 xs
set_option maxHeartbeats 2000000 in
set_option maxRecDepth 100000 in
theorem pop_any (lo : Nat) (b : Nat) (v : Value) (es : List Ent) (x : Ent) (r n c : Nat) (s0 : ByteArray) (w : World) (hst : StkO lo w b v (es ++ [x])) (hc0 : w.cell? ⟨r, 0, none⟩ = some (.string s0)) (hn0 : 0 < n) (hn : es.length ≤ 1048576) (hlo : lo ≤ w.heap.size)
    (h0 : 0 < s0.size) : Calls Try.prog 24 #[.agg #[], .pointer (some ⟨b, 0, none⟩), .slice (some ⟨r, 0, none⟩) n c] w (PopPost lo w b es) := by
  have he : s0.toList.isEmpty = false := by rw [toList_empty, decide_eq_false_iff_not]; omega
  obtain ⟨s1, s2, s3, s4⟩ := hst
  obtain ⟨k, hk⟩ : ∃ k, k = es.length := ⟨_, rfl⟩
  have hlen : (es ++ [x]).length = k + 1 := by rw [hk]; simp
  rcases own_row s3 with ⟨-, -, h⟩ | ⟨g, cp, rfl, -, hgl, hcp, hrow⟩
  · rw [hlen] at h; omega
  rw [hlen] at s2 hcp
  have hkb : k ≤ 1048576 := by omega
  have HR := Lib.hid (show Row w g 49 (entCells es) from by
    obtain ⟨cur, h1, h2⟩ := hrow
    refine ⟨cur, h1, fun j u hu => h2 j u ?_⟩
    rw [entCells_append, List.getElem?_append_left (lt_of_get hu)]; exact hu)
  have HS4 := Lib.hid s4
  have hQ := s2.cell
  have fz := s2.frozen
  have hlt := s2.lt
  have hin : (0 : Int) < (n : Int) := by omega
  have HK := Lib.hid hk
  have a1 := fun o => (s2.alloc o).cell
  have a2 := fun o => cell_alloc hc0 o
  have a3 := fun o => (s2.alloc o).frozen
  have e1 : ((k + 1 : Nat) : Int) - 1 = (k : Int) := by omega
  have e2 : (k : Int) + 1 - 1 = (k : Int) := by omega
  have e3 : (0 : Int) ≤ (k : Int) := by omega
  have e4 : (k : Int) ≤ (cp : Int) := by omega
  clear s3 s4 h0 hlen hk hrow hcp
  go_enter Try.func24, Try.ntmps24
  go_wp2_with fail
  go_region
  go_wp2_with fail
  go_ret
  have hoth : ∀ i, i < w.heap.size → i ≠ b → (((w.setCell ⟨b, 0, none⟩ (.slice (some ⟨g, 0, none⟩) k cp)).alloc (.cells #[] 52)).drew).heap[i]? = w.heap[i]? := fun i hi hne =>
    (Below.heap_alloc _ _ i (by rw [show (w.setCell ⟨b, 0, none⟩ (.slice (some ⟨g, 0, none⟩) k cp)).heap.size = w.heap.size by simp [World.setCell]]; exact hi)).trans (Below.heap_setCell w ⟨b, 0, none⟩ _ i hne)
  have hstr : ∀ q t xs, t ≠ 44 → Row w q t xs → Row (((w.setCell ⟨b, 0, none⟩ (.slice (some ⟨g, 0, none⟩) k cp)).alloc (.cells #[] 52)).drew) q t xs := fun q t xs ht h => by
    obtain ⟨cs, hb, h0⟩ := s2
    exact ((h.far (p := ⟨b, 0, none⟩) (h.ne_blk hb ht) _).alloc _).drew
  refine ⟨rfl, ⟨s1, some ⟨g, 0, none⟩, cp, by rw [← HK.out]; exact ((s2.set _).alloc _), .inr ⟨g, rfl, hgl, hstr _ _ _ (by decide) HR.out⟩, fun e he => (HS4.out e (by simp [he])).keep (fun q xs h => hstr _ _ _ (by decide) h)⟩, ?_, hoth, fun q xs h => hstr _ _ _ (by decide) h⟩
  exact ((((Below.refl lo w).setCell (p := ⟨b, 0, none⟩) s1 _).alloc (by simp [World.setCell]; omega) _).drew)
set_option maxRecDepth 100000 in
theorem pop_empty (b : Nat) (r n c : Nat) (s0 : ByteArray) (w : World) (hc0 : w.cell? ⟨r, 0, none⟩ = some (.string s0)) (hn0 : 0 < n) (h0 : s0.size = 0) :
    Calls Try.prog 24 #[.agg #[], .pointer (some ⟨b, 0, none⟩), .slice (some ⟨r, 0, none⟩) n c] w fun e w' => ∃ t v, e = .returned (.iface t v) ∧ Below w.heap.size w w' := by
  have he : s0.toList.isEmpty = true := by rw [toList_empty, decide_eq_true_eq]; omega
  have hin : (0 : Int) < (n : Int) := by omega
  have a2 := fun o => cell_alloc hc0 o
  go_enter Try.func24, Try.ntmps24
  go_wp2_with fail
  refine (new_any _ _).mono ?_
  rintro e w1 ⟨t, v, rfl, hb⟩
  go_wp2_with fail
  go_ret
  exact ⟨t, v, rfl, below_next hb ((Below.refl _ _).alloc (Nat.le_refl _) _)⟩
end Go.Proofs.Ytjgmknlkgpfpkaa
