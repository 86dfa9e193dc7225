/-
  Plain facts on the cursors of a peeking lexer over a list of token types: no program in sight. Conditions: none.
-/
import Derived.Below
namespace Go.Proofs.Ytomfonilbenhbaa
namespace PL

/-- The type at index i; past the end: EOF. -/
def at_ (T : List Int) (i : Nat) : Int := T.getD i (-1)
def skip (S : Int → Bool) : List Int → Nat
  | [] => 0
  | t :: r => if t == -1 || !S t then 0 else skip S r + 1
/-- The least index from n on whose type is EOF or not elided. -/
def stop (S : Int → Bool) (T : List Int) (n : Nat) : Nat := n + skip S (T.drop n)
def isStop (S : Int → Bool) (T : List Int) (i : Nat) : Bool := at_ T i == -1 || !S (at_ T i)
def vis (S : Int → Bool) (T : List Int) (i : Nat) : Bool := at_ T i != -1 && !S (at_ T i)
def cnt (S : Int → Bool) (T : List Int) : Nat → Nat
  | 0 => 0
  | i + 1 => cnt S T i + (if vis S T i then 1 else 0)

section
variable {S : Int → Bool} {T : List Int}

theorem at_of_ge {i : Nat} (h : T.length ≤ i) : at_ T i = -1 := by
  unfold at_; rw [List.getD_eq_getElem?_getD, List.getElem?_eq_none h]; rfl
theorem at_of_lt {i : Nat} (h : i < T.length) : at_ T i = T[i] := by
  unfold at_; rw [List.getD_eq_getElem?_getD, List.getElem?_eq_getElem h]; rfl
theorem isStop_of_ge {i : Nat} (h : T.length ≤ i) : isStop S T i = true := by simp [isStop, at_of_ge h]
theorem lt_of_not_stop {i : Nat} (h : isStop S T i = false) : i < T.length := by
  rcases Nat.lt_or_ge i T.length with g | g
  · exact g
  · rw [isStop_of_ge g] at h; cases h

theorem stop_of_stop {n : Nat} (h : isStop S T n = true) : stop S T n = n := by
  unfold stop
  rcases Nat.lt_or_ge n T.length with g | g
  · rw [List.drop_eq_getElem_cons g]
    unfold isStop at h
    rw [at_of_lt g] at h
    simp [skip, h]
  · rw [List.drop_eq_nil_of_le g]; simp [skip]
theorem stop_of_not {n : Nat} (h : isStop S T n = false) : stop S T n = stop S T (n + 1) := by
  have g := lt_of_not_stop h
  unfold stop
  rw [List.drop_eq_getElem_cons g]
  unfold isStop at h
  rw [at_of_lt g] at h
  simp only [skip, h, Bool.false_eq_true, if_false]
  omega
theorem le_stop (n : Nat) : n ≤ stop S T n := by unfold stop; omega
theorem skip_le : ∀ l : List Int, skip S l ≤ l.length
  | [] => by simp [skip]
  | t :: r => by
    have := skip_le r
    unfold skip; split <;> simp <;> omega
theorem stop_le {n : Nat} (h : n ≤ T.length) : stop S T n ≤ T.length := by
  have := skip_le (S := S) (T.drop n)
  unfold stop; simp at this; omega
/-- What stands between n and its stop is no stop; the stop is one. -/
theorem stop_spec (n : Nat) : (∀ i, n ≤ i → i < stop S T n → isStop S T i = false) ∧ isStop S T (stop S T n) = true := by
  by_cases hn : n ≤ T.length
  · obtain ⟨d, hd⟩ : ∃ d, d = T.length - n := ⟨_, rfl⟩
    induction d generalizing n with
    | zero =>
      have hs : isStop S T n = true := isStop_of_ge (by omega)
      rw [stop_of_stop hs]
      exact ⟨fun i h1 h2 => absurd h2 (by omega), hs⟩
    | succ d ih =>
      cases hs : isStop S T n with
      | true => rw [stop_of_stop hs]; exact ⟨fun i h1 h2 => absurd h2 (by omega), hs⟩
      | false =>
        obtain ⟨h1, h2⟩ := ih (n + 1) (by omega) (by omega)
        rw [stop_of_not hs]
        refine ⟨fun i hi1 hi2 => ?_, h2⟩
        rcases Nat.lt_or_ge n i with g | g
        · exact h1 i g hi2
        · obtain rfl : i = n := by omega
          exact hs
  · have hs : isStop S T n = true := isStop_of_ge (by omega)
    rw [stop_of_stop hs]
    exact ⟨fun i h1 h2 => absurd h2 (by omega), hs⟩
theorem stop_unique {n m : Nat} (h : n ≤ m) (h1 : ∀ i, n ≤ i → i < m → isStop S T i = false) (h2 : isStop S T m = true) : stop S T n = m := by
  obtain ⟨g1, g2⟩ := stop_spec (S := S) (T := T) n
  rcases Nat.lt_trichotomy (stop S T n) m with g | g | g
  · have := h1 _ (le_stop n) g
    rw [this] at g2; cases g2
  · exact g
  · have := g1 m h g
    rw [this] at h2; cases h2
theorem stop_mono {n m : Nat} (h : n ≤ m) : stop S T n ≤ stop S T m := by
  rcases Nat.lt_or_ge m (stop S T n) with g | g
  · obtain ⟨g1, g2⟩ := stop_spec (S := S) (T := T) n
    have : stop S T m = stop S T n := stop_unique (by omega) (fun i h1 h2 => g1 i (by omega) h2) g2
    omega
  · have := le_stop (S := S) (T := T) m; omega

theorem vis_false_of_not_stop {i : Nat} (h : isStop S T i = false) : vis S T i = false := by
  unfold isStop at h; unfold vis
  simp only [Bool.or_eq_false_iff, Bool.not_eq_false'] at h
  simp [h.2]
theorem vis_of_stop {i : Nat} (h : isStop S T i = true) (h2 : at_ T i ≠ -1) : vis S T i = true := by
  unfold isStop at h; unfold vis
  simp only [Bool.or_eq_true, beq_iff_eq, Bool.not_eq_true'] at h
  simp [h2, h.resolve_left h2]
theorem stop_of_vis {i : Nat} (h : vis S T i = true) : isStop S T i = true := by
  cases g : isStop S T i with
  | true => rfl
  | false => rw [vis_false_of_not_stop g] at h; cases h
theorem ne_of_vis {i : Nat} (h : vis S T i = true) : at_ T i ≠ -1 := by
  unfold vis at h; simp at h; exact h.1
theorem cnt_mono {i j : Nat} (h : i ≤ j) : cnt S T i ≤ cnt S T j := by
  induction j with
  | zero => simp [show i = 0 by omega]
  | succ j ih =>
    rcases Nat.lt_or_ge i (j + 1) with g | g
    · have := ih (by omega)
      simp only [cnt]; omega
    · have : i = j + 1 := by omega
      rw [this]; exact Nat.le_refl _
theorem cnt_le (i : Nat) : cnt S T i ≤ i := by
  induction i with
  | zero => simp [cnt]
  | succ i ih => simp only [cnt]; split <;> omega
theorem cnt_same {i j : Nat} (h : i ≤ j) (hv : ∀ k, i ≤ k → k < j → vis S T k = false) : cnt S T j = cnt S T i := by
  induction j with
  | zero => rw [show i = 0 by omega]
  | succ j ih =>
    rcases Nat.lt_or_ge i (j + 1) with g | g
    · have := ih (by omega) (fun k h1 h2 => hv k h1 (by omega))
      simp [cnt, hv j (by omega) (by omega), this]
    · rw [show i = j + 1 by omega]
theorem cnt_lt_of_vis {i j k : Nat} (h1 : i ≤ k) (h2 : k < j) (hv : vis S T k = true) : cnt S T i < cnt S T j := by
  have a := cnt_mono (S := S) (T := T) h1
  have b := cnt_mono (S := S) (T := T) (show k + 1 ≤ j from h2)
  simp [cnt, hv] at b; omega
end

structure St where
  raw : Nat
  next : Nat
  cur : Nat

def fresh (S : Int → Bool) (T : List Int) : St := ⟨0, stop S T 0, 0⟩
def St.step (S : Int → Bool) (T : List Int) (s : St) : St := if at_ T s.next == -1 then s else ⟨s.next + 1, stop S T (s.next + 1), s.cur + 1⟩
def St.run (S : Int → Bool) (T : List Int) : Nat → St → St
  | 0, s => s
  | k + 1, s => (s.run S T k).step S T

/-- Where FastForward(r) leaves the raw cursor; and the whole state behind it. -/
def ffRaw (E : Nat) (r : Int) (raw : Nat) : Nat := if r < raw then raw else min (r.toNat + 1) E
def St.ff (S : Int → Bool) (T : List Int) (E : Nat) (r : Int) (s : St) : St :=
  ⟨ffRaw E r s.raw, stop S T (ffRaw E r s.raw), s.cur + (cnt S T (ffRaw E r s.raw) - cnt S T s.raw)⟩

/-- E is the first EOF. -/
structure First (T : List Int) (E : Nat) : Prop where
  eof : at_ T E = -1
  none : ∀ i, i < E → at_ T i ≠ -1

/-- What holds of the cursors behind k calls of Next on a fresh lexer. -/
structure Inv (S : Int → Bool) (T : List Int) (E k : Nat) (s : St) : Prop where
  raw : s.raw ≤ E
  next : s.next = stop S T s.raw
  le : s.next ≤ E
  cur : cnt S T s.raw = s.cur
  last : s.raw = 0 ∨ vis S T (s.raw - 1) = true
  most : s.cur ≤ k
  all : s.cur < k → s.next = E

section
variable {S : Int → Bool} {T : List Int} {E : Nat}

theorem First.stop_le (h : First T E) {n : Nat} (hn : n ≤ E) : stop S T n ≤ E := by
  have : isStop S T E = true := by simp [isStop, h.eof]
  rw [← stop_of_stop this]
  exact stop_mono hn
theorem First.eq {E' : Nat} (h : First T E) (h' : First T E') : E = E' := by
  rcases Nat.lt_trichotomy E E' with g | g | g
  · exact absurd h.eof (h'.none _ g)
  · exact g
  · exact absurd h'.eof (h.none _ g)

theorem inv_fresh (h : First T E) : Inv S T E 0 (fresh S T) :=
  ⟨Nat.zero_le _, rfl, h.stop_le (Nat.zero_le _), rfl, .inl rfl, Nat.le_refl _, fun g => absurd g (by simp [fresh])⟩

theorem Inv.step (h : First T E) {k : Nat} {s : St} (I : Inv S T E k s) : Inv S T E (k + 1) (s.step S T) := by
  unfold St.step
  by_cases he : at_ T s.next = -1
  · have hE : s.next = E := by
      rcases Nat.lt_or_ge s.next E with g | g
      · exact absurd he (h.none _ g)
      · have := I.le; omega
    simp only [he, beq_self_eq_true, if_true]
    exact ⟨I.raw, I.next, I.le, I.cur, I.last, by have := I.most; omega, fun _ => hE⟩
  · have hlt : s.next < E := by
      rcases Nat.lt_or_ge s.next E with g | g
      · exact g
      · have := I.le
        have : s.next = E := by omega
        rw [this] at he; exact absurd h.eof he
    have hf : (at_ T s.next == -1) = false := by simpa using he
    simp only [hf, Bool.false_eq_true, if_false]
    obtain ⟨g1, g2⟩ := stop_spec (S := S) (T := T) s.raw
    rw [← I.next] at g1 g2
    have hv := vis_of_stop g2 he
    have hle : s.raw ≤ s.next := by rw [I.next]; exact le_stop _
    have hc : cnt S T (s.next + 1) = s.cur + 1 := by
      have e := cnt_same (S := S) (T := T) hle (fun k h1 h2 => vis_false_of_not_stop (g1 k h1 h2))
      simp [cnt, hv, e, I.cur]
    refine ⟨hlt, rfl, h.stop_le hlt, hc, .inr (by simpa using hv), by have := I.most; show s.cur + 1 ≤ k + 1; omega, fun hk => ?_⟩
    have hk' : s.cur + 1 < k + 1 := hk
    have := I.all (by omega)
    omega

theorem inv_run (h : First T E) : ∀ k, Inv S T E k ((fresh S T).run S T k)
  | 0 => inv_fresh h
  | k + 1 => (inv_run h k).step h

theorem Inv.raw_le_next {k : Nat} {s : St} (I : Inv S T E k s) : s.raw ≤ s.next := by rw [I.next]; exact le_stop _

/-- Raw cursor and count are told by k alone. -/
theorem Inv.unique {k r c : Nat} {s : St} (I : Inv S T E k s) (hr : r ≤ E) (hc : cnt S T r = c) (hl : r = 0 ∨ vis S T (r - 1) = true) (hm : c ≤ k)
    (ha : c < k → ∀ i, r ≤ i → i < E → vis S T i = false) : s.raw = r ∧ s.cur = c := by
  have key : s.cur = c → s.raw = r := fun e => by
    rcases Nat.lt_trichotomy s.raw r with g | g | g
    · rcases hl with hl | hl
      · omega
      · have := cnt_lt_of_vis (i := s.raw) (j := r) (by omega) (by omega) hl
        rw [I.cur, hc] at this; omega
    · exact g
    · rcases I.last with hl | hl
      · omega
      · have := cnt_lt_of_vis (i := r) (j := s.raw) (by omega) (by omega) hl
        rw [I.cur, hc] at this; omega
  rcases Nat.lt_trichotomy s.cur c with g | g | g
  · have hE := I.all (by omega)
    obtain ⟨g1, _⟩ := stop_spec (S := S) (T := T) s.raw
    rw [← I.next, hE] at g1
    have e := cnt_same (S := S) (T := T) I.raw (fun k h1 h2 => vis_false_of_not_stop (g1 k h1 h2))
    have := cnt_mono (S := S) (T := T) hr
    rw [hc, e, I.cur] at this; omega
  · exact ⟨key g, g⟩
  · have hk : c < k := by have := I.most; omega
    have e := cnt_same (S := S) (T := T) hr (fun i h1 h2 => ha hk i h1 h2)
    have := cnt_mono (S := S) (T := T) I.raw
    rw [I.cur, e, hc] at this; omega
end
end PL
end Go.Proofs.Ytomfonilbenhbaa
