/-
  FnTermStringNestedGroupsClosedForm: the plain closed form, lookaheads, and what a nested term says. Conditions: none beyond those stated.
-/
import Derived.Test.YtjneojglklbbfaaS6
namespace Go.Proofs.Ytjneojglklbbfaa
open Go.RowKit
set_option linter.unusedSimpArgs false
set_option linter.unusedVariables false
namespace fnTermStringNestedGroupsClosedForm
/-- The lookahead's rune at a level. -/
def lookR (z : List Int) (i : Nat) : Int := if repAt z i % 3 = 1 then 33 else if repAt z i % 3 = 2 then 61 else 0
def lookT (z : List Int) (i : Nat) : ByteArray := if lookR z i = 33 then ⟨#[63, 33]⟩ else if lookR z i = 61 then ⟨#[63, 61]⟩ else ⟨#[]⟩
theorem lookR_cases (z : List Int) (i : Nat) : (lookR z i = 33 ∧ lookT z i = ⟨#[63, 33]⟩) ∨ (lookR z i = 61 ∧ lookT z i = ⟨#[63, 61]⟩) ∨ (lookR z i = 0 ∧ lookT z i = ⟨#[]⟩) := by
  have h : lookR z i = 33 ∨ lookR z i = 61 ∨ lookR z i = 0 := by
    unfold lookR
    split
    · simp
    · split <;> simp
  rcases h with h | h | h
  · exact .inl ⟨h, by unfold lookT; rw [h]; rfl⟩
  · exact .inr (.inl ⟨h, by unfold lookT; rw [h]; rfl⟩)
  · exact .inr (.inr ⟨h, by unfold lookT; rw [h]; rfl⟩)
theorem lookT_size (z : List Int) (i : Nat) : (lookT z i).size ≤ 2 := by
  rcases lookR_cases z i with ⟨_, h⟩ | ⟨_, h⟩ | ⟨_, h⟩ <;> rw [h] <;> decide
/-- The text of the term at a level. -/
def nest (L : ByteArray) (z : List Int) : Nat → ByteArray
  | 0 => L
  | j + 1 => ((⟨#[40]⟩ : ByteArray) ++ lookT z j) ++ (nest L z j ++ ⟨#[41]⟩)
theorem nest_size (L : ByteArray) (z : List Int) (j : Nat) : (nest L z j).size ≤ L.size + 4 * j := by
  induction j with
  | zero => simp [nest]
  | succ j ih =>
    have := lookT_size z j
    have e1 : ((⟨#[40]⟩ : ByteArray)).size = 1 := rfl
    have e2 : ((⟨#[41]⟩ : ByteArray)).size = 1 := rfl
    simp only [nest, PS.size_app, e1, e2]; omega
/-- The openers of the levels d-1 down to j. -/
def opens (z : List Int) (d : Nat) : Nat → ByteArray
  | 0 => ⟨#[]⟩
  | k + 1 => opens z d k ++ ((⟨#[40]⟩ : ByteArray) ++ lookT z (d - (k + 1)))
def closers : Nat → ByteArray
  | 0 => ⟨#[]⟩
  | k + 1 => closers k ++ ⟨#[41]⟩
theorem closers_comm (k : Nat) : (⟨#[41]⟩ : ByteArray) ++ closers k = closers (k + 1) := by
  induction k with
  | zero => decide +kernel
  | succ k ih =>
    show (⟨#[41]⟩ : ByteArray) ++ (closers k ++ ⟨#[41]⟩) = closers (k + 1) ++ ⟨#[41]⟩
    rw [← PS.app_assoc, ih]
theorem nest_form (L : ByteArray) (z : List Int) (d k : Nat) (h : k ≤ d) : opens z d k ++ nest L z (d - k) ++ closers k = nest L z d := by
  induction k with
  | zero => show (⟨#[]⟩ : ByteArray) ++ nest L z d ++ ⟨#[]⟩ = _; exact (PS.app_empty _).trans (PS.empty_app _)
  | succ k ih =>
    rw [← ih (by omega)]
    have e : d - k = (d - (k + 1)) + 1 := by omega
    rw [e]
    show opens z d k ++ ((⟨#[40]⟩ : ByteArray) ++ lookT z (d - (k + 1))) ++ nest L z (d - (k + 1)) ++ closers (k + 1) = opens z d k ++ (((⟨#[40]⟩ : ByteArray) ++ lookT z (d - (k + 1))) ++ (nest L z (d - (k + 1)) ++ ⟨#[41]⟩)) ++ closers k
    rw [← closers_comm]
    simp only [PS.app_assoc]
theorem nest_closed (L : ByteArray) (z : List Int) (d : Nat) (rp : ByteArray) : opens z d d ++ L ++ closers d ++ rp = nest L z d ++ rp := by
  have := nest_form L z d d (Nat.le_refl _)
  rw [Nat.sub_self] at this
  rw [← this]; rfl
theorem opens_size (z : List Int) (d k : Nat) : (opens z d k).size ≤ 3 * k := by
  induction k with
  | zero => exact Nat.le_refl 0
  | succ k ih =>
    have := lookT_size z (d - (k + 1))
    have e1 : ((⟨#[40]⟩ : ByteArray)).size = 1 := rfl
    simp only [opens, PS.size_app, e1]; omega
theorem closers_size (k : Nat) : (closers k).size = k := by
  induction k with
  | zero => rfl
  | succ k ih => simp only [closers, PS.size_app, ih]; rfl
/-! ### the two look functions -/
theorem lookRune_any (A : Option Addr) (n c : Nat) (z : List Int) (i : Nat) (w : World) (hv : Ints .u8 w A n z) (hi : i ≤ 1048576) (hn : n ≤ 1048576) :
    Calls Try.prog 36 #[.slice A n c, .int .i64 i] w fun e w' => e = .returned (.int .i32 (lookR z i)) ∧ w = w' := by
  by_cases hlt : i < n
  · rcases hv.split with h | ⟨b, off, rfl, hc⟩
    · exfalso; omega
    have hci := hc.out i hlt
    obtain ⟨hq0, hq1⟩ := repAt_wf hv i
    have e : z.getD i 0 = repAt z i := rfl
    rw [e] at hci
    unfold lookR
    clear hc e
    have h0 : (0 : Int) ≤ (i : Int) := by omega
    have h1 : (i : Int) < (n : Int) := by omega
    generalize repAt z i = y at hci hq0 hq1 ⊢
    have ht : y.tmod 3 = y % 3 := Int.tmod_eq_emod_of_nonneg hq0
    obtain ⟨m, hm⟩ : ∃ m, m = y % 3 := ⟨_, rfl⟩
    have hm3 : m = 0 ∨ m = 1 ∨ m = 2 := by omega
    rw [← hm] at ht ⊢
    clear hm
    rcases hm3 with rfl | rfl | rfl
    all_goals
      go_enter Try.func36, Try.ntmps36
      go_wp2_with fail
      go_ret
      exact ⟨rfl, rfl⟩
  · have e : lookR z i = 0 := by unfold lookR repAt; rw [List.getD_eq_getElem?_getD, List.getElem?_eq_none (by rw [hv.1]; omega)]; rfl
    rw [e]
    clear e
    have h1 : ¬ (i : Int) < (n : Int) := by omega
    have h2 : (n : Int) ≤ (i : Int) := by omega
    go_enter Try.func36, Try.ntmps36
    go_wp2_with fail
    go_ret
    exact ⟨rfl, rfl⟩
theorem lookText_any (A : Option Addr) (n c : Nat) (z : List Int) (i : Nat) (w : World) (hv : Ints .u8 w A n z) (hi : i ≤ 1048576) (hn : n ≤ 1048576) :
    Calls Try.prog 39 #[.slice A n c, .int .i64 i] w fun e w' => e = .returned (.string (lookT z i)) ∧ w = w' := by
  have H := Lib.hid (lookRune_any A n c z i w hv hi hn)
  clear hv
  rcases lookR_cases z i with ⟨h1, h2⟩ | ⟨h1, h2⟩ | ⟨h1, h2⟩
  all_goals
    rw [h1] at H
    rw [h2]
    clear h1 h2
    go_enter Try.func39, Try.ntmps39
    go_wp2_with (go_at_call 36; refine H.out.mono ?_; rintro e w1 ⟨rfl, rfl⟩)
    go_ret
    exact ⟨rfl, rfl⟩
/-! ### the term at a level, its repetition open -/
/-- The term in block b: with the repetition rp it says t ++ rp. -/
def TermR (w : World) (b : Nat) (t : ByteArray) : Prop :=
  ∃ cs : Array Value, cs[5]? = some (.string ⟨#[]⟩) ∧ cs.setIfInBounds 5 (.string ⟨#[]⟩) = cs ∧ Blk w b 33 cs ∧
    ∀ w' rp, w.grownBy w' (some b) → Blk w' b 33 (cs.setIfInBounds 5 (.string rp)) → rp.size ≤ 1 → SaysG none w' 38 b (t ++ rp)
theorem TermR.says {w : World} {b : Nat} {t : ByteArray} (h : TermR w b t) : SaysG none w 38 b t := by
  obtain ⟨cs, h5, hs, hb, hw⟩ := h
  have := hw w ⟨#[]⟩ (grown_refl _ _) (by rw [hs]; exact hb) (by decide)
  have e : t ++ (⟨#[]⟩ : ByteArray) = t := PS.app_empty t
  rw [e] at this
  exact this
theorem TermR.leaf {w : World} {b : Nat} {m : Int} {tx : ByteArray} (hm : m = 0 ∨ m = 1 ∨ m = 2) (hb : Blk w b 33 (leafCells m tx ⟨#[]⟩)) (hn : 0 < tx.size) (h1 : tx.size ≤ 1073741824) : TermR w b (leafText m tx) := by
  refine ⟨leafCells m tx ⟨#[]⟩, ?_, ?_, hb, fun w' rp hg hb' hr => ?_⟩
  · rcases hm with rfl | rfl | rfl <;> rfl
  · rcases hm with rfl | rfl | rfl <;> rfl
  · have e : (leafCells m tx ⟨#[]⟩).setIfInBounds 5 (.string rp) = leafCells m tx rp := by rcases hm with rfl | rfl | rfl <;> rfl
    rw [e] at hb'
    exact leaf_says (by simp) hm hb' hn h1 (by omega)
theorem TermR.group {w1 w : World} {b g : Nat} {s : ByteArray} (hb : Blk w b 33 #[.bool false, .string ⟨#[]⟩, .string ⟨#[]⟩, .string ⟨#[]⟩, .pointer (some ⟨g, 0, none⟩), .string ⟨#[]⟩])
    (hs : SaysG none w1 15 g s) (hw : Below w1.heap.size w1 w) (hle : w1.heap.size ≤ b) (h1 : s.size ≤ 2147483648) : TermR w b s := by
  refine ⟨_, rfl, rfl, hb, fun w' rp hg hb' hr => ?_⟩
  have h2 : Below w1.heap.size w1 w' := hw.grown hg hw.size (fun k hk => by injection hk with hk; omega)
  exact term_groupG (by simp) hb' (hs.later h2) h1 (by omega)
theorem TermR.set {w : World} {b : Nat} {t rp : ByteArray} (h : TermR w b t) (hr : rp.size ≤ 1) : SaysG none (w.setCell ⟨b, 5, none⟩ (.string rp)) 38 b (t ++ rp) := by
  obtain ⟨cs, h5, hs, hb, hw⟩ := h
  exact hw _ rp (grown_setCell (grown_refl w (some b)) (p := ⟨b, 5, none⟩) (.inl rfl) _) (hb.set 5 _) hr
theorem TermR.cell {w : World} {b : Nat} {t : ByteArray} (h : TermR w b t) : w.cell? ⟨b, 5, none⟩ = some (.string ⟨#[]⟩) ∧ w.frozen? ⟨b, 5, none⟩ = false := by
  obtain ⟨cs, h5, hs, hb, hw⟩ := h
  exact ⟨(hb.cell 5).trans h5, hb.frozen 5⟩
theorem one_saysG {w : World} {f b0 : Nat} {s : ByteArray} (h : SaysG none w f b0 s) : ∀ i, i < [b0].length → SaysG none w f ([b0].getD i 0) ([s].getD i ByteArray.empty) := by
  intro i hi
  obtain rfl : i = 0 := by simp at hi; omega
  exact h
theorem conv33 (W : World) : (convert 26 9 (.int .i32 33)).run Try.prog W = Result.ok (.string ⟨#[33]⟩) W := by kernel_rfl
theorem conv61 (W : World) : (convert 26 9 (.int .i32 61)).run Try.prog W = Result.ok (.string ⟨#[61]⟩) W := by kernel_rfl
/-- One level more: the group round the term in block b. -/
theorem level {w : World} {b : Nat} {z : List Int} {L : ByteArray} {j : Nat} (hb : SaysG none w 38 b (nest L z j)) (hz : (nest L z j).size ≤ 1000000) :
    TermR ((((((w.alloc (.cells #[.pointer (some ⟨b, 0, none⟩)] 30)).alloc (.cells #[.slice (some ⟨w.heap.size, 0, none⟩) 1 1] 37)).alloc (.cells #[.pointer (some ⟨w.heap.size + 1, 0, none⟩)] 34)).alloc
      (.cells #[.slice (some ⟨w.heap.size + 1 + 1, 0, none⟩) 1 1] 41)).alloc (.cells #[.int .i32 (lookR z j), .pointer (some ⟨w.heap.size + 1 + 1 + 1, 0, none⟩)] 43)).alloc
      (.cells #[.bool false, .string ⟨#[]⟩, .string ⟨#[]⟩, .string ⟨#[]⟩, .pointer (some ⟨w.heap.size + 1 + 1 + 1 + 1, 0, none⟩), .string ⟨#[]⟩] 33)) (w.heap.size + 1 + 1 + 1 + 1 + 1) (nest L z (j + 1)) := by
  have al : ∀ (W : World) (o : Obj), Below W.heap.size W (W.alloc o) := fun W o => (Below.refl _ _).alloc (Nat.le_refl _) _
  generalize hs : nest L z j = s at hb hz
  generalize h2' : w.alloc (.cells #[.pointer (some ⟨b, 0, none⟩)] 30) = w2
  have s2 : w2.heap.size = w.heap.size + 1 := by rw [← h2']; simp
  have r2 : Row w2 w.heap.size 30 (ptrs [b]) := row_of_blk (by rw [← h2']; exact Blk.new w _ _) rfl
  have t2 : SaysG none w2 38 b s := hb.later (by rw [← h2']; exact al _ _)
  generalize h3 : w2.alloc (.cells #[.slice (some ⟨w.heap.size, 0, none⟩) 1 1] 37) = w3
  have s3 : w3.heap.size = w.heap.size + 1 + 1 := by rw [← h3]; simp [s2]
  have ht1 : PS.tot [s] ≤ 1073741824 := by simp only [PS.tot]; omega
  have t3 : SaysG none w3 26 (w.heap.size + 1) s :=
    seq_saysG (by simp) (bs := [b]) (ss := [s]) (by rw [← h3]; exact blk_new_at s2.symm) (.inr ⟨_, rfl, by simp, by rw [← h3]; exact r2.alloc _⟩) rfl (by simp)
      (one_saysG (t2.later (by rw [← h3]; exact al _ _))) ht1
  generalize h4 : w3.alloc (.cells #[.pointer (some ⟨w.heap.size + 1, 0, none⟩)] 34) = w4
  have s4 : w4.heap.size = w.heap.size + 1 + 1 + 1 := by rw [← h4]; simp [s3]
  have r4 : Row w4 (w.heap.size + 1 + 1) 34 (ptrs [w.heap.size + 1]) := row_of_blk (by rw [← h4]; exact blk_new_at s3.symm) rfl
  have t4 : SaysG none w4 26 (w.heap.size + 1) s := t3.later (by rw [← h4]; exact al _ _)
  generalize h5 : w4.alloc (.cells #[.slice (some ⟨w.heap.size + 1 + 1, 0, none⟩) 1 1] 41) = w5
  have s5 : w5.heap.size = w.heap.size + 1 + 1 + 1 + 1 := by rw [← h5]; simp [s4]
  have t5 : SaysG none w5 32 (w.heap.size + 1 + 1 + 1) s :=
    expr_saysG (by simp) (bs := [w.heap.size + 1]) (ss := [s]) (by rw [← h5]; exact blk_new_at s4.symm) (.inr ⟨_, rfl, by simp, by rw [← h5]; exact r4.alloc _⟩) rfl (by simp)
      (one_saysG (t4.later (by rw [← h5]; exact al _ _))) ht1
  generalize h6 : w5.alloc (.cells #[.int .i32 (lookR z j), .pointer (some ⟨w.heap.size + 1 + 1 + 1, 0, none⟩)] 43) = w6
  have s6 : w6.heap.size = w.heap.size + 1 + 1 + 1 + 1 + 1 := by rw [← h6]; simp [s5]
  have t6' : SaysG none w6 32 (w.heap.size + 1 + 1 + 1) s := t5.later (by rw [← h6]; exact al _ _)
  have hsub : Blk w6 (w.heap.size + 1 + 1 + 1 + 1) 43 #[.int .i32 (lookR z j), .pointer (some ⟨w.heap.size + 1 + 1 + 1, 0, none⟩)] := by rw [← h6]; exact blk_new_at s5.symm
  have t6 : SaysG none w6 15 (w.heap.size + 1 + 1 + 1 + 1) (nest L z (j + 1)) := by
    show SaysG none w6 15 (w.heap.size + 1 + 1 + 1 + 1) (((⟨#[40]⟩ : ByteArray) ++ lookT z j) ++ (nest L z j ++ ⟨#[41]⟩))
    rw [hs]
    rcases lookR_cases z j with ⟨h1, h2⟩ | ⟨h1, h2⟩ | ⟨h1, h2⟩
    · rw [h1] at hsub
      rw [h2, show (⟨#[63, 33]⟩ : ByteArray) = (⟨#[63]⟩ : ByteArray) ++ ⟨#[33]⟩ by decide +kernel]
      exact sub_lookG (by simp) hsub rfl conv33 (by decide) t6' (by omega)
    · rw [h1] at hsub
      rw [h2, show (⟨#[63, 61]⟩ : ByteArray) = (⟨#[63]⟩ : ByteArray) ++ ⟨#[61]⟩ by decide +kernel]
      exact sub_lookG (by simp) hsub rfl conv61 (by decide) t6' (by omega)
    · rw [h1] at hsub
      rw [h2, show (⟨#[40]⟩ : ByteArray) ++ (⟨#[]⟩ : ByteArray) = ⟨#[40]⟩ from PS.app_empty _]
      exact sub_plainG (by simp) hsub t6' (by omega)
  have hns : (nest L z (j + 1)).size ≤ 2147483648 := by
    have := lookT_size z j
    show (((⟨#[40]⟩ : ByteArray) ++ lookT z j) ++ (nest L z j ++ ⟨#[41]⟩)).size ≤ _
    rw [hs]
    have e1 : ((⟨#[40]⟩ : ByteArray)).size = 1 := rfl
    have e2 : ((⟨#[41]⟩ : ByteArray)).size = 1 := rfl
    simp only [PS.size_app, e1, e2]; omega
  exact TermR.group (w1 := w6) (blk_new_at s6.symm) t6 (al _ _) (by omega) hns
end fnTermStringNestedGroupsClosedForm
end Go.Proofs.Ytjneojglklbbfaa
