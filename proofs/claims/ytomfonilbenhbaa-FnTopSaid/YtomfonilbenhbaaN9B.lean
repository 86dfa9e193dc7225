/-
  What b6Tokens and b6Elide of n025_9 build: the token row and the set. Conditions: the arguments read as slices of at most 65536 entries.
-/
import Derived.Test.YtomfonilbenhbaaLexC
import Derived.Deep.AppendLies
namespace Go.Proofs.Ytomfonilbenhbaa
open Go.RowKit
set_option linter.unusedSimpArgs false

theorem tokInfo : (Try.prog.info? 46).map (fun i => (i.zero, i.size, i.bytes)) = some (some (Value.agg #[.int .i64 0, .string ByteArray.empty, .string ByteArray.empty, .int .i64 0, .int .i64 0, .int .i64 0]), 6, 64) := by kernel_rfl

/-- The stream that b6Tokens builds from index i on. -/
def b6Go (vs : List ByteArray) (i : Nat) : List Int → List Tok
  | [] => [⟨-1, ByteArray.empty, ByteArray.empty, i, 1, i + 1⟩]
  | t :: r => ⟨t, vs.getD i ByteArray.empty, ByteArray.empty, i, 1, i + 1⟩ :: (if t = -1 then [] else b6Go vs (i + 1) r)
def b6Toks (ts : List Int) (vs : List ByteArray) : List Tok := b6Go vs 0 ts

theorem b6Go_length (vs : List ByteArray) : ∀ (ts : List Int) (i : Nat), 0 < (b6Go vs i ts).length ∧ (b6Go vs i ts).length ≤ ts.length + 1
  | [], _ => by simp [b6Go]
  | t :: r, i => by
    have := b6Go_length vs r (i + 1)
    unfold b6Go; split <;> simp <;> omega
theorem b6Go_first (vs : List ByteArray) : ∀ (ts : List Int) (i : Nat), PL.First (types (b6Go vs i ts)) ((b6Go vs i ts).length - 1)
  | [], i => ⟨by simp [b6Go, types, PL.at_], fun j hj => by simp [b6Go] at hj⟩
  | t :: r, i => by
    unfold b6Go
    split
    · rename_i h
      subst h
      exact ⟨by simp [types, PL.at_], fun j hj => by simp at hj⟩
    · rename_i h
      have ih := b6Go_first vs r (i + 1)
      have hl := (b6Go_length vs r (i + 1)).1
      have e : ((⟨t, vs.getD i ByteArray.empty, ByteArray.empty, i, 1, i + 1⟩ : Tok) :: b6Go vs (i + 1) r).length - 1 = (b6Go vs (i + 1) r).length - 1 + 1 := by simp; omega
      rw [e]
      refine ⟨?_, fun j hj => ?_⟩
      · have := ih.eof
        unfold PL.at_ types at this ⊢
        simpa using this
      · cases j with
        | zero => simpa [PL.at_, types] using h
        | succ j =>
          have := ih.none j (by omega)
          unfold PL.at_ types at this ⊢
          simpa using this
theorem b6Go_wf (vs : List ByteArray) : ∀ (ts : List Int) (i : Nat), (∀ z ∈ ts, (Lit.int .i64 z).wf = true) → ∀ t ∈ b6Go vs i ts, (Lit.int .i64 t.ty).wf = true
  | [], _, _ => by intro t ht; simp [b6Go] at ht; subst ht; exact (show (Lit.int .i64 (-1)).wf = true by decide)
  | t :: r, i, h => by
    intro t' ht'
    unfold b6Go at ht'
    rcases List.mem_cons.1 ht' with rfl | ht'
    · exact h _ (by simp)
    · split at ht'
      · cases ht'
      · exact b6Go_wf vs r (i + 1) (fun z hz => h z (by simp [hz])) t' ht'

theorem toksCells_snoc (l : List Tok) (t : Tok) : toksCells (l ++ [t]) = toksCells l ++ t.cells := by simp [toksCells]
theorem cells_one (t : Tok) : ∀ u ∈ t.cells, u.oneCell' = true := by
  intro u hu
  simp [Tok.cells] at hu
  rcases hu with rfl | rfl | rfl | rfl | rfl | rfl <;> rfl

/-- What b6Tokens leaves: a slice over a new row of tokens. -/
def ToksPost (w : World) (L : List Tok) (e : Ending) (w' : World) : Prop :=
  ∃ g cap, e = .returned (.slice (some ⟨g, 0, none⟩) L.length cap) ∧ w.heap.size ≤ g ∧ Row w' g 46 (toksCells L) ∧ Below w.heap.size w w'

theorem toks_close {w w2 : World} {j cap : Nat} {pre L : List Tok} {t : Tok} (e : pre ++ [t] = L) (hl : pre.length = j)
    (hown : w2.ownsRow w.heap.size 46 6 (.slice (some ⟨w.heap.size, 0, none⟩) (j + 1) cap) (j + 1) (toksCells pre ++ t.cells)) (hb : Below w.heap.size w w2) :
    ToksPost w L (.returned (.slice (some ⟨w.heap.size, 0, none⟩) (j + 1) cap)) w2 := by
  refine ⟨w.heap.size, cap, ?_, Nat.le_refl _, ?_, hb⟩
  · rw [← e]; simp [hl]
  · rw [← e, toksCells_snoc]; exact Row.of_own hown

/-- The round's end, away from the walk. -/
theorem b6_step (vs : List ByteArray) (ts : List Int) (j : Nat) (pre : List Tok) (hp : pre ++ b6Go vs j (ts.drop j) = b6Toks ts vs) (hj : j < ts.length) (h : ts.getD j 0 ≠ -1) :
    (pre ++ [(⟨ts.getD j 0, vs.getD j ByteArray.empty, ByteArray.empty, j, 1, (j : Int) + 1⟩ : Tok)]) ++ b6Go vs (j + 1) (ts.drop (j + 1)) = b6Toks ts vs := by
  rw [← hp, List.drop_eq_getElem_cons hj]
  have e : ts.getD j 0 = ts[j] := by rw [List.getD_eq_getElem?_getD, List.getElem?_eq_getElem hj]; rfl
  rw [e] at h ⊢
  simp [b6Go, h]
theorem b6_stop (vs : List ByteArray) (ts : List Int) (j : Nat) (pre : List Tok) (hp : pre ++ b6Go vs j (ts.drop j) = b6Toks ts vs) (hj : j < ts.length) (h : ts.getD j 0 = -1) :
    pre ++ [(⟨ts.getD j 0, vs.getD j ByteArray.empty, ByteArray.empty, j, 1, (j : Int) + 1⟩ : Tok)] = b6Toks ts vs := by
  rw [← hp, List.drop_eq_getElem_cons hj]
  have e : ts.getD j 0 = ts[j] := by rw [List.getD_eq_getElem?_getD, List.getElem?_eq_getElem hj]; rfl
  rw [e] at h ⊢
  simp [b6Go, h]
theorem b6_end (vs : List ByteArray) (ts : List Int) (j : Nat) (pre : List Tok) (hp : pre ++ b6Go vs j (ts.drop j) = b6Toks ts vs) (hj : j = ts.length) :
    pre ++ [(⟨-1, ByteArray.empty, ByteArray.empty, j, 1, (j : Int) + 1⟩ : Tok)] = b6Toks ts vs := by
  rw [← hp, hj, List.drop_length]; rfl

set_option maxHeartbeats 1000000 in
set_option maxRecDepth 100000 in
theorem toks_any (A0 : Option Addr) (n0 c0 : Nat) (z0 : List Int) (A1 : Option Addr) (n1 c1 : Nat) (z1 : List ByteArray) (w : World) (ht : Ints .i64 w A0 n0 z0) (hv : Strs w A1 n1 z1) (h0 : n0 ≤ 65536) (h1 : n1 ≤ 65536) :
    Calls Try.prog 45 #[.slice A0 n0 c0, .slice A1 n1 c1] w (ToksPost w (b6Toks z0 z1)) := by
  obtain ⟨i0, hi, hz0, hz1, hz2⟩ := info_parts tokInfo
  have hl0 := ht.1
  have HL0 := Lib.hid hl0; clear hl0
  have HT := Lib.hid ht
  have HV := Lib.hid hv
  rcases ht.split with e0 | ⟨b0, o0, rfl, hc0⟩ <;> rcases hv.split with e1 | ⟨b1, o1, rfl, hc1⟩
  all_goals
    clear ht hv
    go_enter Try.func45, Try.ntmps45
    go_wp2_with (at_make; refine wpList_make_own _ rfl _ _ 27 rfl w.heap.size 46 i0 _ 6 Try.underlying27 hi hz0 hz1 _ _ _ (n0 + 1) rfl rfl (by omega) (by rw [hz2]; omega) (by unfold maxLen; omega) (Nat.le_refl _) ?_; intro w1 hown1 hg1)
    go_loopg [4, 5, 6, 7, 8] n0 (fun k u v i _ _ wr => ∃ (j : Nat) (pre : List Tok), k = n0 - j ∧ j ≤ n0 ∧ pre.length = j ∧ v = .slice (some ⟨w.heap.size, 0, none⟩) j (n0 + 1) ∧ i = .int .i64 j ∧ u = .slice none 0 0 ∧
      pre ++ b6Go z1 j (z0.drop j) = b6Toks z0 z1 ∧ wr.ownsRow w.heap.size 46 6 (.slice (some ⟨w.heap.size, 0, none⟩) j (n0 + 1)) j (toksCells pre) ∧ Below w.heap.size w wr)
    case atStart => exact ⟨0, [], rfl, Nat.zero_le _, rfl, rfl, rfl, rfl, rfl, hown1, (Below.refl _ _).grown hg1 (Nat.le_refl _) (fun _ h => by cases h)⟩
    case round =>
      obtain ⟨j, pre, hk, hj, hpl, rfl, rfl, rfl, hpre, hown, hbel⟩ := hrel
      have KK := Lib.hid hk; clear hk
      have HP := Lib.hid hpre; clear hpre
      have HPL := Lib.hid hpl; clear hpl
      have hwlt : w.heap.size < wr.heap.size := (hown.lt _ rfl).2
      by_cases hlt : j < n0
      · first
          | (exfalso; omega)
          | (obtain ⟨tj, htj⟩ : ∃ t, t = z0.getD j 0 := ⟨_, rfl⟩
             have hcj := (hbel.cell (p := ⟨b0, o0 + j, none⟩) (World.block_lt_of_cell? _ _ (hc0.out j hlt))).trans (hc0.out j hlt)
             rw [← htj] at hcj
             have HTJ := Lib.hid htj; clear htj
             by_cases hv1 : j < n1
             · first
                 | (exfalso; omega)
                 | (obtain ⟨sj, hsj⟩ : ∃ t, t = z1.getD j ByteArray.empty := ⟨_, rfl⟩
                    have hcv := (hbel.cell (p := ⟨b1, o1 + j, none⟩) (World.block_lt_of_cell? _ _ (hc1.out j hv1))).trans (hc1.out j hv1)
                    rw [← hsj] at hcv
                    have HSJ := Lib.hid hsj; clear hsj
                    go_wp2_with (at_builtin; refine wpList_append_fits _ rfl _ _ 27 rfl w.heap.size 46 i0 6 Try.underlying27 hi hz1 w.heap.size j (n0 + 1) (toksCells pre) rfl ((hown.alloc _).alloc _) ⟨wr.heap.size + 1, 0, none⟩ 1 1 (Tok.cells ⟨tj, sj, ByteArray.empty, j, 1, (j : Int) + 1⟩) rfl rfl ?_ ?_ (by omega) ?_; (exact World.news_of_block (heap_alloc2_new _ _ _)); (exact cells_one ⟨_, _, _, _, _, _⟩); intro w2 hown2 hg2; have hx2 : w2.cell? ⟨wr.heap.size, 0, none⟩ = some (.int .i64 tj) := hg2.cell (by rw [World.cell?_alloc_lt _ _ _ (by simp)]; exact cell_new' _ _ _ _ _ rfl) (by simp; omega); have hb2 : Below w.heap.size w w2 := ((hbel.alloc (by omega) _).alloc (by simp; omega) _).grown hg2 (by simp; omega) (fun k hk => by injection hk with hk; omega); clear hg2 hcj)
                    · have hE : tj = -1 := by simpa using ‹(tj == -1) = true›
                      go_ret
                      refine toks_close (b6_stop z1 z0 j pre HP.out (by rw [HL0.out]; exact hlt) (by rw [← HTJ.out]; exact hE)) HPL.out ?_ hb2
                      rw [← HTJ.out, ← HSJ.out]
                      exact hown2
                    · have hE : tj ≠ -1 := by simpa using ‹(tj == -1) = false›
                      go_roundg (n0 - (j + 1))
                      case measure => rw [KK.out]; omega
                      case rel =>
                        refine ⟨j + 1, pre ++ [⟨tj, sj, ByteArray.empty, j, 1, (j : Int) + 1⟩], rfl, by omega, by simp [HPL.out], rfl, by go_num, rfl, ?_, ?_, hb2⟩
                        · have := b6_step z1 z0 j pre HP.out (by rw [HL0.out]; exact hlt) (by rw [← HTJ.out]; exact hE)
                          rw [← HTJ.out, ← HSJ.out] at this
                          exact this
                        · rw [toksCells_snoc]; exact hown2)
             · (have hsj : ByteArray.empty = z1.getD j ByteArray.empty := by
                  have := HV.out.1
                  rw [List.getD_eq_getElem?_getD, List.getElem?_eq_none (by omega)]; rfl
                have HSJ := Lib.hid hsj; clear hsj
                go_wp2_with (at_builtin; refine wpList_append_fits _ rfl _ _ 27 rfl w.heap.size 46 i0 6 Try.underlying27 hi hz1 w.heap.size j (n0 + 1) (toksCells pre) rfl ((hown.alloc _).alloc _) ⟨wr.heap.size + 1, 0, none⟩ 1 1 (Tok.cells ⟨tj, ByteArray.empty, ByteArray.empty, j, 1, (j : Int) + 1⟩) rfl rfl ?_ ?_ (by omega) ?_; (exact World.news_of_block (heap_alloc2_new _ _ _)); (exact cells_one ⟨_, _, _, _, _, _⟩); intro w2 hown2 hg2; have hx2 : w2.cell? ⟨wr.heap.size, 0, none⟩ = some (.int .i64 tj) := hg2.cell (by rw [World.cell?_alloc_lt _ _ _ (by simp)]; exact cell_new' _ _ _ _ _ rfl) (by simp; omega); have hb2 : Below w.heap.size w w2 := ((hbel.alloc (by omega) _).alloc (by simp; omega) _).grown hg2 (by simp; omega) (fun k hk => by injection hk with hk; omega); clear hg2 hcj)
                · have hE : tj = -1 := by simpa using ‹(tj == -1) = true›
                  go_ret
                  refine toks_close (b6_stop z1 z0 j pre HP.out (by rw [HL0.out]; exact hlt) (by rw [← HTJ.out]; exact hE)) HPL.out ?_ hb2
                  rw [← HTJ.out, ← HSJ.out]
                  exact hown2
                · have hE : tj ≠ -1 := by simpa using ‹(tj == -1) = false›
                  go_roundg (n0 - (j + 1))
                  case measure => rw [KK.out]; omega
                  case rel =>
                    refine ⟨j + 1, pre ++ [⟨tj, ByteArray.empty, ByteArray.empty, j, 1, (j : Int) + 1⟩], rfl, by omega, by simp [HPL.out], rfl, by go_num, rfl, ?_, ?_, hb2⟩
                    · have := b6_step z1 z0 j pre HP.out (by rw [HL0.out]; exact hlt) (by rw [← HTJ.out]; exact hE)
                      rw [← HTJ.out, ← HSJ.out] at this
                      exact this
                    · rw [toksCells_snoc]; exact hown2))
      · have hjn : j = n0 := by omega
        have HJN := Lib.hid hjn; clear hjn
        go_wp2_with (at_builtin; refine wpList_append_fits _ rfl _ _ 27 rfl w.heap.size 46 i0 6 Try.underlying27 hi hz1 w.heap.size j (n0 + 1) (toksCells pre) rfl (hown.alloc _) ⟨wr.heap.size, 0, none⟩ 1 1 (Tok.cells ⟨-1, ByteArray.empty, ByteArray.empty, n0, 1, (n0 : Int) + 1⟩) rfl rfl ?_ ?_ (by omega) ?_; (exact World.news_of_block (heap_alloc_new _ _)); (exact cells_one ⟨_, _, _, _, _, _⟩); intro w2 hown2 hg2; have hb2 : Below w.heap.size w w2 := (hbel.alloc (by omega) _).grown hg2 (by simp; omega) (fun k hk => by injection hk with hk; omega); clear hg2)
        go_ret
        refine toks_close (b6_end z1 z0 j pre HP.out (by rw [HL0.out]; exact HJN.out)) HPL.out ?_ hb2
        rw [HJN.out] at hown2 ⊢
        exact hown2
/-- Is x listed? -/
def inS (zs : List Int) (x : Int) : Bool := zs.contains x
/-- What b6Elide leaves: a new map that holds just the listed types. -/
def ElidePost (w : World) (S : Int → Bool) (e : Ending) (w' : World) : Prop :=
  ∃ b n, e = .returned (.map (some b)) ∧ w.heap.size ≤ b ∧ BSet Try.prog 42 4 w' b n S ∧ Below w.heap.size w w'

theorem contains_snoc (zs : List Int) (j : Nat) (hj : j < zs.length) (x : Int) : (x == zs.getD j 0 || (zs.take j).contains x) = (zs.take (j + 1)).contains x := by
  have e : zs.getD j 0 = zs[j] := by rw [List.getD_eq_getElem?_getD, List.getElem?_eq_getElem hj]; rfl
  rw [e, List.take_succ_eq_append_getElem hj, List.contains_eq_any_beq, List.contains_eq_any_beq, List.any_append, Bool.or_comm]
  simp only [List.any_cons, List.any_nil, Bool.or_false]

set_option maxRecDepth 100000 in
theorem elide_any (A0 : Option Addr) (n0 c0 : Nat) (z0 : List Int) (w : World) (ht : Ints .i64 w A0 n0 z0) (h0 : n0 ≤ 65536) :
    Calls Try.prog 46 #[.slice A0 n0 c0] w (ElidePost w (inS z0)) := by
  have hl0 := ht.1
  have HL0 := Lib.hid hl0; clear hl0
  have HT := Lib.hid ht
  have hmm := makeMap_hint (P := Try.prog) 50 42 4 Try.underlying50
  rcases ht.split with e0 | ⟨b0, o0, rfl, hc0⟩
  all_goals
    clear ht
    go_enter Try.func46, Try.ntmps46
    go_wp2_with fail
    go_loopg [4] n0 (fun k i wr => ∃ j : Nat, k = n0 - j ∧ j ≤ n0 ∧ i = .int .i64 j ∧ BSet Try.prog 42 4 wr w.heap.size j (fun x => (z0.take j).contains x) ∧ Below w.heap.size w wr)
    case atStart => exact ⟨0, rfl, Nat.zero_le _, rfl, (BSet.made w).congr (fun x => by simp), (Below.refl _ _).alloc (Nat.le_refl _) _⟩
    case round =>
      obtain ⟨j, hk, hj, rfl, hset, hbel⟩ := hrel
      have KK := Lib.hid hk; clear hk
      by_cases hlt : j < n0
      · first
          | (exfalso; omega)
          | (obtain ⟨tj, htj⟩ : ∃ t, t = z0.getD j 0 := ⟨_, rfl⟩
             have hcj := (hbel.cell (p := ⟨b0, o0 + j, none⟩) (World.block_lt_of_cell? _ _ (hc0.out j hlt))).trans (hc0.out j hlt)
             have hwf := HT.out.wf hlt
             rw [← htj] at hcj hwf
             have HTJ := Lib.hid htj; clear htj
             have HWF := Lib.hid hwf; clear hwf
             go_wp2_with (at_mapUpdate; refine wpList_store_bset _ rfl _ _ _ 50 rfl 42 4 Try.underlying42 Try.underlying4 Try.underlying50 w.heap.size j _ rfl hset (by unfold maxLen; omega) tj rfl rfl HWF.out ?_; intro w2 hset2 hg2; have hb2 : Below w.heap.size w w2 := hbel.grown hg2 hbel.size (fun k hk => by injection hk with hk; omega); clear hg2 hcj)
             go_roundg (n0 - (j + 1))
             case measure => rw [KK.out]; omega
             case rel => exact ⟨j + 1, rfl, by omega, by go_num, hset2.congr (fun x => by rw [HTJ.out]; exact contains_snoc z0 j (by rw [HL0.out]; exact hlt) x), hb2⟩)
      · go_wp2_with fail
        go_ret
        exact ⟨_, _, rfl, Nat.le_refl _, hset.congr (fun x => by rw [List.take_of_length_le (by rw [HL0.out]; omega)]; rfl), hbel⟩
end Go.Proofs.Ytomfonilbenhbaa
