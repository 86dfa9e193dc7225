/-
  What zzExpr builds out of a slice of slices of TermSpec: an expression that says the alternatives' texts with bars between. Conditions: sizes as stated.
-/
import Derived.Test.YtjneojglklbbfaaA2
import Derived.Test.YtjneojglklbbfaaD5
namespace Go.Proofs.Ytjneojglklbbfaa
open Go.RowKit
set_option linter.unusedSimpArgs false
set_option linter.unusedVariables false
def sumA : List (List Spec) → Nat
  | [] => 0
  | x :: r => x.length + sumS x + sumA r
theorem sumA_append (xs ys : List (List Spec)) : sumA (xs ++ ys) = sumA xs + sumA ys := by
  induction xs with
  | nil => simp [sumA]
  | cons x r ih => simp only [List.cons_append, sumA, ih]; omega
theorem take_snocA {α : Type} (xs : List (List α)) (i : Nat) (h : i < xs.length) : xs.take (i + 1) = xs.take i ++ [xs.getD i []] := by
  rw [List.take_succ_eq_append_getElem h, List.getD_eq_getElem?_getD, List.getElem?_eq_getElem h]; rfl
theorem sumA_snoc (xs : List (List Spec)) (i : Nat) (h : i < xs.length) : sumA (xs.take (i + 1)) = sumA (xs.take i) + ((xs.getD i []).length + sumS (xs.getD i [])) := by
  rw [take_snocA xs i h, sumA_append]; simp [sumA]
theorem sumA_take (xs : List (List Spec)) (i : Nat) : sumA (xs.take i) ≤ sumA xs := by
  have := sumA_append (xs.take i) (xs.drop i)
  rw [List.take_append_drop] at this
  omega
theorem sumA_get (xs : List (List Spec)) (i : Nat) : (xs.getD i []).length + sumS (xs.getD i []) ≤ sumA xs := by
  rcases Nat.lt_or_ge i xs.length with h | h
  · have h1 := sumA_take xs (i + 1)
    rw [sumA_snoc xs i h] at h1
    omega
  · rw [List.getD_eq_getElem?_getD, List.getElem?_eq_none h]
    exact Nat.zero_le _
/-- How an alternative prints. -/
def altText (z : List Spec) : ByteArray := PS.join ⟨#[32]⟩ (z.map Spec.text)
theorem altText_size (z : List Spec) : (altText z).size ≤ sumS z + 8 * z.length :=
  Nat.le_trans (PS.join_size (sep := ⟨#[32]⟩) (by decide) _) (tot_text z)
theorem tot_alts (zs : List (List Spec)) : PS.tot (zs.map altText) ≤ 8 * sumA zs + 3 * zs.length := by
  induction zs with
  | nil => simp [PS.tot]
  | cons x r ih =>
    have h1 := altText_size x
    simp only [List.map_cons, PS.tot, sumA, List.length_cons]
    omega
theorem ptrInfoS : (Try.prog.info? 34).map (fun i => (i.zero, i.size, i.bytes)) = some (some (Value.pointer none), 1, 8) := by kernel_rfl
theorem map_alt_at (z : List (List Spec)) (i : Nat) (h : i < z.length) : (z.map altText).getD i ByteArray.empty = altText (z.getD i []) := by
  simp [List.getElem?_eq_getElem h]
/-- The sequences that were built so far; writes to block g do not touch them. -/
def SeqsS (g : Nat) (w : World) (z : List (List Spec)) (bs : List Nat) (j : Nat) : Prop :=
  bs.length = j ∧ ∀ i, i < j → SaysG (some g) w 26 (bs.getD i 0) (altText (z.getD i []))
theorem SeqsS.snoc {g : Nat} {w w' : World} {z : List (List Spec)} {bs : List Nat} {j b : Nat} (h : SeqsS g w z bs j) (hk : w.grownBy w' (some g)) (hb : SaysG (some g) w' 26 b (altText (z.getD j []))) : SeqsS g w' z (bs ++ [b]) (j + 1) := by
  refine ⟨by simp [h.1], fun i hi => ?_⟩
  rcases Nat.lt_or_ge i j with q | q
  · rw [getD_snoc_ltN _ _ (by rw [h.1]; exact q)]; exact (h.2 i q).grown hk
  · obtain rfl : i = j := by omega
    have := getD_snoc_atN bs b
    rw [h.1] at this
    rw [this]; exact hb
theorem saysG_none {g : Option Nat} {w : World} {f b : Nat} {s : ByteArray} (h : SaysG g w f b s) : SaysG none w f b s := fun w' hw => h w' ⟨hw.os, hw.tape, hw.output, hw.size, fun i hi _ => hw.block i hi (fun e => by cases e)⟩
/-- A new expression. -/
def ExprPost (w : World) (t : ByteArray) (e : Ending) (w' : World) : Prop :=
  ∃ b, e = .returned (.pointer (some ⟨b, 0, none⟩)) ∧ Hid (SaysG none w' 32 b t) ∧ Below w.heap.size w w'
set_option maxHeartbeats 2000000 in
set_option maxRecDepth 100000 in
theorem expr_any (A : Option Addr) (n c : Nat) (z : List (List Spec)) (w : World) (hv : Alts Specs w A n z) (hn : n ≤ 8192) (hs : sumA z ≤ 1048576 * 2) (hin : ∀ i, i < n → (z.getD i []).length ≤ 8192) (hst : ∀ i k, ((z.getD i []).getD k zeroSpec).s.size ≤ 1048576) :
    Calls Try.prog 31 #[.slice A n c] w (ExprPost w (PS.join ⟨#[32, 124, 32]⟩ (z.map altText))) := by
  obtain ⟨i0, hi, hz0, hz1, hz2⟩ := info_parts ptrInfoS
  have HL := Lib.hid hv.1
  have HV := Lib.hid hv
  have HS := Lib.hid hs
  have HIN := Lib.hid hin
  have HST := Lib.hid hst
  clear hv hs hin hst
  go_enter Try.func31, Try.ntmps31
  go_wp2_with (at_make; refine wpList_make_own _ rfl _ _ 39 rfl w.heap.size 34 i0 _ 1 Try.underlying39 hi hz0 hz1 _ _ _ n rfl rfl rfl (by rw [hz2]; omega) (by unfold maxLen; omega) (Nat.le_refl _) ?_; intro w4 hown4 hg4)
  have hb4 : Below w.heap.size w w4 := (Below.refl _ _).grown hg4 (Nat.le_refl _) (fun _ h => by cases h)
  clear hg4
  go_loopg [3, 4] n (fun k v i wr => ∃ (j : Nat) (bs : List Nat), k = n - j ∧ j ≤ n ∧ i = .int .i64 j ∧ v = .slice (some ⟨w.heap.size, 0, none⟩) j n ∧ wr.ownsRow w.heap.size 34 1 (.slice (some ⟨w.heap.size, 0, none⟩) j n) j (ptrs bs) ∧ Hid (SeqsS w.heap.size wr z bs j) ∧ Below w.heap.size w wr)
  case atStart => exact ⟨0, [], rfl, Nat.zero_le _, rfl, rfl, hown4, Lib.hid ⟨rfl, fun i hi => absurd hi (Nat.not_lt_zero _)⟩, hb4⟩
  case round =>
    obtain ⟨j, bs, hk, hj, rfl, rfl, hown, HTS, hbel⟩ := hrel
    have KK := Lib.hid hk; clear hk hb4 hown4
    by_cases hlt : j < n
    · rcases (HV.out.later specs_kept hbel).split with h | ⟨b, off, rfl, hc⟩
      · exfalso; omega
      obtain ⟨Ai, ni, ci, hcj, hsi⟩ := hc.out j hlt
      have hni := HIN.out j hlt
      rw [hsi.1] at hni
      have HSI := Lib.hid hsi
      have hi0 : (0 : Int) ≤ (j : Int) := by omega
      have hi1 : (j : Int) < (n : Int) := by omega
      have hsz := hbel.size
      have hgl := (Row.of_own hown).lt
      have hT : PS.tot ((z.getD j []).map Spec.text) ≤ 1073741824 := by
        have h1 := tot_text (z.getD j [])
        have h2 := sumA_get z j
        have h3 := HS.out
        omega
      have HT := Lib.hid hT
      clear hc hsi hT
      go_wp2_with fail
      refine (seq_any Ai ni ci _ _ HSI.out hni (HST.out j) HT.out).mono ?_
      rintro e w5 ⟨tb, rfl, htb, htb', HQ, hb5⟩
      have hown5 := own_later hown hb5
      have hbel5 := below_next hb5 (w := w) (W := wr) hbel
      have hsz5 := hbel5.size
      have hrow5 := Row.of_own hown5
      clear hcj
      go_wp2_with (at_builtin; refine wpList_append_fits _ rfl _ _ 39 rfl w.heap.size 34 i0 1 Try.underlying39 hi hz1 w.heap.size j n (ptrs bs) rfl (hown5.alloc _) ⟨w5.heap.size, 0, none⟩ 1 1 [.pointer (some ⟨tb, 0, none⟩)] rfl rfl one_news (by intro u hu; simp at hu; subst hu; rfl) (by omega) ?_; intro w6 hown6 hg6)
      have hb6 : Below w.heap.size w w6 := (hbel5.alloc hsz5 _).grown hg6 (by simp; omega) (fun k hk => by injection hk with hk; omega)
      have hgr : wr.grownBy w6 (some w.heap.size) := grown_trans (grown_alloc (grown_of_below hb5 _) _) hg6
      have HT6 : Hid (SeqsS w.heap.size w6 z (bs ++ [tb]) (j + 1)) := HTS.out.snoc hgr ((HQ.out (some w.heap.size) (fun g h => by injection h with h; omega)).grown (grown_trans (grown_alloc (grown_refl _ _) _) hg6))
      have hownN : w6.ownsRow w.heap.size 34 1 (.slice (some ⟨w.heap.size, 0, none⟩) (j + 1) n) (j + 1) (ptrs (bs ++ [tb])) := by
        unfold ptrs at hown6 ⊢
        rw [List.map_append]; exact hown6
      clear hown6 hg6 hown hown5 hrow5 hb5 HQ hgr
      go_wp2_with fail
      go_roundg (n - (j + 1))
      case measure => rw [KK.out]; omega
      case rel => exact ⟨j + 1, bs ++ [tb], rfl, by omega, by go_num, rfl, hownN, HT6, hb6⟩
    · obtain rfl : n = j := by omega
      clear hlt
      have hrow := Row.of_own hown
      have hbl := HTS.out.1
      have hsz := hbel.size
      have hwlt := hrow.lt
      have HSQ : Hid (∀ W, W = wr.alloc (.cells #[.slice (some ⟨w.heap.size, 0, none⟩) n n] 41) → SaysG none W 32 wr.heap.size (PS.join ⟨#[32, 124, 32]⟩ (z.map altText))) := by
        intro W hW
        have hbW : Below wr.heap.size wr W := by rw [hW]; exact (Below.refl _ _).alloc (Nat.le_refl _) _
        refine expr_saysG (fun e => by cases e) (A := some ⟨w.heap.size, 0, none⟩) (c := n) (bs := bs) (by rw [hW, hbl]; exact Blk.new wr _ _)
          (.inr ⟨w.heap.size, rfl, (fun e => by cases e), hrow.later hbW⟩) (by rw [List.length_map, HL.out, hbl]) (by omega) ?_ (by have := tot_alts z; rw [HL.out] at this; have := HS.out; omega)
        intro i hi
        rw [map_alt_at z i (by rw [HL.out, ← hbl]; exact hi)]
        exact (saysG_none (HTS.out.2 i (by rw [← hbl]; exact hi))).later hbW
      clear hown hrow hbl
      go_wp2_with fail
      go_ret
      exact ⟨wr.heap.size, rfl, Lib.hid (HSQ.out _ rfl), hbel.alloc hsz _⟩
end Go.Proofs.Ytjneojglklbbfaa
