/-
  Plain facts on FastForward, the first EOF and the token list of n025_4 and n025_15: no program in sight. Conditions: none.
-/
import Derived.Test.YtnbpddcgpjjibaaLexC
namespace Go.Proofs.Ytnbpddcgpjjibaa
set_option linter.unusedVariables false
namespace PL
def feof : List Int → Nat
  | [] => 0
  | t :: r => if t = -1 then 0 else feof r + 1
theorem feof_first : ∀ T : List Int, First T (feof T)
  | [] => ⟨by simp [at_, feof], fun i hi => by simp [feof] at hi⟩
  | t :: r => by
    have ih := feof_first r
    unfold feof
    split
    · rename_i h
      subst h
      exact ⟨by simp [at_], fun j hj => by simp at hj⟩
    · rename_i h
      refine ⟨?_, fun j hj => ?_⟩
      · have := ih.eof
        unfold at_ at this ⊢
        simpa using this
      · cases j with
        | zero => simpa [at_] using h
        | succ j =>
          have := ih.none j (by omega)
          unfold at_ at this ⊢
          simpa using this
theorem feof_snoc : ∀ A : List Int, feof (A ++ [-1]) ≤ A.length
  | [] => by simp [feof]
  | t :: r => by
    have := feof_snoc r
    simp only [List.cons_append, feof]
    split
    · omega
    · simp; omega

section
variable {S : Int → Bool} {T : List Int} {E : Nat}
theorem ffRaw_le {r : Int} {raw : Nat} (h : raw ≤ E) : ffRaw E r raw ≤ E := by unfold ffRaw; split <;> omega
theorem le_ffRaw {r : Int} {raw : Nat} (h : raw ≤ E) : raw ≤ ffRaw E r raw := by unfold ffRaw; split <;> omega
theorem ffRaw_comp {r s : Int} {raw : Nat} (h : raw ≤ E) (hrs : r ≤ s) : ffRaw E s (ffRaw E r raw) = ffRaw E s raw := by
  unfold ffRaw
  by_cases h1 : r < raw
  · rw [if_pos h1]
  · rw [if_neg h1]
    by_cases h2 : s < (raw : Int)
    · omega
    · rw [if_neg h2]
      split <;> omega
theorem ffRaw_zero (r : Int) : ffRaw E r 0 = if r < 0 then 0 else min (r.toNat + 1) E := by unfold ffRaw; simp
theorem ff_raw {r : Int} {s : St} : (s.ff S T E r).raw = ffRaw E r s.raw := rfl
theorem ff_comp {r r' : Int} {s : St} (h : s.raw ≤ E) (hrs : r ≤ r') : (s.ff S T E r).ff S T E r' = s.ff S T E r' := by
  have e := ffRaw_comp h hrs
  have a := cnt_mono (S := S) (T := T) (le_ffRaw (r := r) h)
  have b := cnt_mono (S := S) (T := T) (le_ffRaw (r := r') (ffRaw_le (r := r) h))
  rw [e] at b
  show St.mk _ _ _ = St.mk _ _ _
  simp only [ff_raw, e]
  congr 1
  show s.cur + (cnt S T (ffRaw E r s.raw) - cnt S T s.raw) + _ = _
  omega

/-- FastForward onto the k-th visible token, and k + 1 calls of Next. -/
theorem ff_is_run {k v : Nat} (hF : First T E) (hv : vis S T v = true) (hlt : v < E) (hc : cnt S T v = k) :
    (fresh S T).ff S T E v = (fresh S T).run S T (k + 1) ∧ ((fresh S T).run S T k).next = v := by
  have I := inv_run (S := S) hF (k + 1)
  have J := inv_run (S := S) hF k
  have hc1 : cnt S T (v + 1) = k + 1 := by simp [cnt, hv, hc]
  obtain ⟨hr, hcu⟩ := I.unique (r := v + 1) (c := k + 1) hlt hc1 (.inr (by simpa using hv)) (Nat.le_refl _) (fun h => absurd h (by omega))
  have hn := I.next
  refine ⟨?_, ?_⟩
  · have hR : ffRaw E (v : Int) 0 = v + 1 := by unfold ffRaw; split <;> omega
    have e : (fresh S T).ff S T E v = ⟨v + 1, stop S T (v + 1), k + 1⟩ := by
      show St.mk (ffRaw E v 0) _ _ = _
      rw [show (fresh S T).raw = 0 from rfl, show (fresh S T).cur = 0 from rfl, hR, hc1]
      simp [cnt]
    rw [e]
    generalize (fresh S T).run S T (k + 1) = s at *
    obtain ⟨a, b, c⟩ := s
    simp at hr hcu hn
    rw [hn, hr, hcu]
  · have hm := J.most
    have e : (fresh S T).run S T (k + 1) = ((fresh S T).run S T k).step S T := rfl
    rw [e] at hr hcu
    generalize (fresh S T).run S T k = s at *
    unfold St.step at hr hcu
    split at hcu
    · omega
    · rename_i g
      rw [if_neg g] at hr
      simpa using hr
end
end PL

/-! ### the token list -/
def t4Go (i : Nat) : List Int → List Tok
  | [] => [⟨-1, ByteArray.empty, ByteArray.empty, i, 0, 0⟩]
  | t :: r => ⟨t, ByteArray.empty, ByteArray.empty, i, 0, 0⟩ :: t4Go (i + 1) r
def t4 (z : List Int) : List Tok := t4Go 0 z
theorem t4Go_types : ∀ (z : List Int) (i : Nat), types (t4Go i z) = z ++ [-1]
  | [], i => rfl
  | t :: r, i => by
    have := t4Go_types r (i + 1)
    simp [types, t4Go] at this ⊢
    exact this
theorem t4_types (z : List Int) : types (t4 z) = z ++ [-1] := t4Go_types z 0
theorem t4_length (z : List Int) : (t4 z).length = z.length + 1 := by
  have := congrArg List.length (t4_types z)
  simpa [types] using this
theorem t4Go_at : ∀ (z : List Int) (i j : Nat), j ≤ z.length → (t4Go i z).getD j eofTok = ⟨(z ++ [-1]).getD j (-1), ByteArray.empty, ByteArray.empty, ((i + j : Nat) : Int), 0, 0⟩
  | [], i, j, h => by
    obtain rfl : j = 0 := by simpa using h
    simp [t4Go]
  | t :: r, i, 0, h => by simp [t4Go]
  | t :: r, i, j + 1, h => by
    have := t4Go_at r (i + 1) j (by simpa using h)
    simp only [t4Go, List.getD_cons_succ, List.cons_append, this]
    rw [show i + 1 + j = i + (j + 1) by omega]
theorem t4_at (z : List Int) (j : Nat) (h : j ≤ z.length) : (t4 z).getD j eofTok = ⟨(z ++ [-1]).getD j (-1), ByteArray.empty, ByteArray.empty, (j : Int), 0, 0⟩ := by
  have := t4Go_at z 0 j h
  rw [Nat.zero_add] at this
  exact this
theorem t4_wf (z : List Int) (h : ∀ x ∈ z, (Lit.int .i64 x).wf = true) : ∀ t ∈ t4 z, (Lit.int .i64 t.ty).wf = true := by
  intro t ht
  have : t.ty ∈ types (t4 z) := List.mem_map.2 ⟨t, ht, rfl⟩
  rw [t4_types] at this
  rcases List.mem_append.1 this with g | g
  · exact h _ g
  · simp at g
    rw [g]
    exact (show (Lit.int .i64 (-1)).wf = true by decide)
/-- The first EOF of the list. -/
def t4E (z : List Int) : Nat := PL.feof (types (t4 z))
theorem t4_first (z : List Int) : PL.First (types (t4 z)) (t4E z) := PL.feof_first _
theorem t4E_le (z : List Int) : t4E z ≤ z.length := by unfold t4E; rw [t4_types]; exact PL.feof_snoc z
theorem t4_snoc (z : List Int) (j : Nat) (hj : j < z.length) : (t4Go 0 z).take (j + 1) = (t4Go 0 z).take j ++ [⟨z.getD j 0, ByteArray.empty, ByteArray.empty, (j : Int), 0, 0⟩] := by
  have hl : j < (t4Go 0 z).length := by have := t4_length z; unfold t4 at this; omega
  rw [List.take_succ_eq_append_getElem hl]
  have := t4_at z j (by omega)
  unfold t4 at this
  rw [List.getD_eq_getElem?_getD, List.getElem?_eq_getElem hl] at this
  simp only [Option.getD_some] at this
  rw [this]
  congr 3
  rw [List.getD_eq_getElem?_getD, List.getElem?_append_left hj, List.getD_eq_getElem?_getD, List.getElem?_eq_getElem hj]; rfl
theorem t4_last (z : List Int) : t4 z = (t4Go 0 z).take z.length ++ [⟨-1, ByteArray.empty, ByteArray.empty, (z.length : Int), 0, 0⟩] := by
  have hl : z.length < (t4Go 0 z).length := by have := t4_length z; unfold t4 at this; omega
  have e : (t4Go 0 z).take (z.length + 1) = t4 z := by
    have := t4_length z
    unfold t4 at this ⊢
    exact List.take_of_length_le (by omega)
  rw [← e, List.take_succ_eq_append_getElem hl]
  have := t4_at z z.length (Nat.le_refl _)
  unfold t4 at this
  rw [List.getD_eq_getElem?_getD, List.getElem?_eq_getElem hl] at this
  simp only [Option.getD_some] at this
  rw [this]
  congr 3
  simp
end Go.Proofs.Ytnbpddcgpjjibaa
