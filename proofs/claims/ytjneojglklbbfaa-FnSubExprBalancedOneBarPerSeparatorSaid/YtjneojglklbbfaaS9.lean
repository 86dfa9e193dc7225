/-
  What zzSeq builds out of a slice of TermSpec: a sequence that says the specs' texts with spaces between. Conditions: sizes as stated.
-/
import Derived.Test.YtjneojglklbbfaaS8
namespace Go.Proofs.Ytjneojglklbbfaa
open Go.RowKit
set_option linter.unusedSimpArgs false
set_option linter.unusedVariables false
theorem ptrInfoT : (Try.prog.info? 30).map (fun i => (i.zero, i.size, i.bytes)) = some (some (Value.pointer none), 1, 8) := by kernel_rfl
theorem own_later {w w' : World} {base size n : Nat} {t : TypeId} {v : Value} {xs : List Value} (h : w.ownsRow base t size v n xs) (hb : Below w.heap.size w w') : w'.ownsRow base t size v n xs := by
  obtain ⟨hl, h⟩ := h
  refine ⟨hl, ?_⟩
  rcases h with h | ⟨g, cap, cur, hv, hbg, hh, h1, h2, h3, h4⟩
  · exact .inl h
  · exact .inr ⟨g, cap, cur, hv, hbg, (hb.block g (lt_of_some hh)).trans hh, h1, h2, h3, h4⟩
theorem getD_snoc_ltN (bs : List Nat) (b : Nat) {i : Nat} (h : i < bs.length) : (bs ++ [b]).getD i 0 = bs.getD i 0 := by simp [List.getElem?_append_left h]
theorem getD_snoc_atN (bs : List Nat) (b : Nat) : (bs ++ [b]).getD bs.length 0 = b := by simp
/-- The leaf terms that were built so far, in blocks from B on. -/
def TermsS (B : Nat) (w : World) (z : List Spec) (bs : List Nat) (j : Nat) : Prop :=
  bs.length = j ∧ ∀ i, i < j → B ≤ bs.getD i 0 ∧ Blk w (bs.getD i 0) 33 (leafCells ((z.getD i zeroSpec).k % 3) (specText (z.getD i zeroSpec).s) (PS.repT (z.getD i zeroSpec).r))
theorem TermsS.snoc {B : Nat} {w w' : World} {z : List Spec} {bs : List Nat} {j b : Nat} (h : TermsS B w z bs j) (hk : ∀ g cs, Blk w g 33 cs → Blk w' g 33 cs) (hB : B ≤ b)
    (hb : Blk w' b 33 (leafCells ((z.getD j zeroSpec).k % 3) (specText (z.getD j zeroSpec).s) (PS.repT (z.getD j zeroSpec).r))) : TermsS B w' z (bs ++ [b]) (j + 1) := by
  refine ⟨by simp [h.1], fun i hi => ?_⟩
  rcases Nat.lt_or_ge i j with g | g
  · rw [getD_snoc_ltN _ _ (by rw [h.1]; exact g)]; exact ⟨(h.2 i g).1, hk _ _ (h.2 i g).2⟩
  · obtain rfl : i = j := by omega
    have := getD_snoc_atN bs b
    rw [h.1] at this
    rw [this]; exact ⟨hB, hb⟩
theorem specText_size (s : ByteArray) : 0 < (specText s).size ∧ (specText s).size ≤ s.size + 1 := by
  unfold specText
  split
  · exact ⟨by decide, by show 1 ≤ _; omega⟩
  · omega
theorem leafText_size (m : Int) (tx : ByteArray) : (leafText m tx).size ≤ tx.size + 2 := by
  unfold leafText
  have e1 : ((⟨#[60]⟩ : ByteArray)).size = 1 := rfl
  have e2 : ((⟨#[62]⟩ : ByteArray)).size = 1 := rfl
  split
  · omega
  · split
    · omega
    · simp only [PS.size_app, e1, e2]; omega
theorem map_text_at (z : List Spec) (i : Nat) (h : i < z.length) : (z.map Spec.text).getD i ByteArray.empty = (z.getD i zeroSpec).text := by
  simp [List.getElem?_eq_getElem h]
theorem TermsS.says {B : Nat} {w : World} {z : List Spec} {bs : List Nat} {q : Option Nat} (h : TermsS B w z bs z.length) (hq : ∀ g, q = some g → g < B) (hs : ∀ i, (z.getD i zeroSpec).s.size ≤ 1048576) :
    ∀ i, i < bs.length → SaysG q w 38 (bs.getD i 0) ((z.map Spec.text).getD i ByteArray.empty) := by
  intro i hi
  rw [h.1] at hi
  rw [map_text_at z i hi]
  obtain ⟨h1, h2⟩ := h.2 i hi
  obtain ⟨h3, h4⟩ := specText_size (z.getD i zeroSpec).s
  have h5 := hs i
  have h6 := PS.repT_size (z.getD i zeroSpec).r
  exact leaf_says (fun e => by have := hq _ e.symm; omega) (by omega) h2 h3 (by omega) (by omega)
/-- A new sequence, kept over writes to one old block. -/
def SeqPost (w : World) (t : ByteArray) (e : Ending) (w' : World) : Prop :=
  ∃ b, e = .returned (.pointer (some ⟨b, 0, none⟩)) ∧ w.heap.size ≤ b ∧ b < w'.heap.size ∧ Hid (∀ q : Option Nat, (∀ g, q = some g → g < w.heap.size) → SaysG q w' 26 b t) ∧ Below w.heap.size w w'
set_option maxHeartbeats 2000000 in
set_option maxRecDepth 100000 in
theorem seq_any (A : Option Addr) (n c : Nat) (z : List Spec) (w : World) (hv : Specs w A n z) (hn : n ≤ 8192) (hs : ∀ i, (z.getD i zeroSpec).s.size ≤ 1048576) (hT : PS.tot (z.map Spec.text) ≤ 1073741824) :
    Calls Try.prog 25 #[.slice A n c] w (SeqPost w (PS.join ⟨#[32]⟩ (z.map Spec.text))) := by
  obtain ⟨i0, hi, hz0, hz1, hz2⟩ := info_parts ptrInfoT
  have HL := Lib.hid hv.1
  have HV := Lib.hid hv
  have HS := Lib.hid hs
  have HT := Lib.hid hT
  clear hv hs hT
  go_enter Try.func25, Try.ntmps25
  go_wp2_with (at_make; refine wpList_make_own _ rfl _ _ 35 rfl w.heap.size 30 i0 _ 1 Try.underlying35 hi hz0 hz1 _ _ _ n rfl rfl rfl (by rw [hz2]; omega) (by unfold maxLen; omega) (Nat.le_refl _) ?_; intro w4 hown4 hg4)
  have hb4 : Below w.heap.size w w4 := (Below.refl _ _).grown hg4 (Nat.le_refl _) (fun _ h => by cases h)
  clear hg4
  go_loopg [3, 4] n (fun k v i wr => ∃ (j : Nat) (bs : List Nat), k = n - j ∧ j ≤ n ∧ i = .int .i64 j ∧ v = .slice (some ⟨w.heap.size, 0, none⟩) j n ∧ wr.ownsRow w.heap.size 30 1 (.slice (some ⟨w.heap.size, 0, none⟩) j n) j (ptrs bs) ∧ Hid (TermsS w.heap.size wr z bs j) ∧ Below w.heap.size w wr)
  case atStart => exact ⟨0, [], rfl, Nat.zero_le _, rfl, rfl, hown4, Lib.hid ⟨rfl, fun i hi => absurd hi (Nat.not_lt_zero _)⟩, hb4⟩
  case round =>
    obtain ⟨j, bs, hk, hj, rfl, rfl, hown, HTS, hbel⟩ := hrel
    have KK := Lib.hid hk; clear hk hb4 hown4
    by_cases hlt : j < n
    · rcases (HV.out.later hbel).split with h | ⟨b, off, rfl, hc⟩
      · exfalso; omega
      obtain ⟨hc1, hc2, hc3⟩ := hc.out j hlt
      obtain ⟨⟨hk0, hk1⟩, hss, hr0, hr1⟩ := HV.out.okAt j
      obtain ⟨sj, hsd⟩ : ∃ x, x = z.getD j zeroSpec := ⟨_, rfl⟩
      rw [← hsd] at hc1 hc2 hc3 hk0 hk1 hr0 hr1
      have HSD := Lib.hid hsd; clear hsd hc hss
      have hi0 : (0 : Int) ≤ (j : Int) := by omega
      have hi1 : (j : Int) < (n : Int) := by omega
      have hsz := hbel.size
      go_wp2_with fail
      refine (term_any sj.k sj.s sj.r _ hk0 hk1 hr0 hr1).mono ?_
      rintro e w5 ⟨tb, rfl, htb, hblk, hb5⟩
      have hown5 := own_later hown hb5
      have hbel5 := below_next hb5 (w := w) (W := wr) hbel
      have hsz5 := hbel5.size
      have hrow5 := Row.of_own hown5
      clear hc1 hc2 hc3
      go_wp2_with (at_builtin; refine wpList_append_fits _ rfl _ _ 35 rfl w.heap.size 30 i0 1 Try.underlying35 hi hz1 w.heap.size j n (ptrs bs) rfl (hown5.alloc _) ⟨w5.heap.size, 0, none⟩ 1 1 [.pointer (some ⟨tb, 0, none⟩)] rfl rfl one_news (by intro u hu; simp at hu; subst hu; rfl) (by omega) ?_; intro w6 hown6 hg6)
      have hb6 : Below w.heap.size w w6 := (hbel5.alloc hsz5 _).grown hg6 (by simp; omega) (fun k hk => by injection hk with hk; omega)
      have HT6 : Hid (TermsS w.heap.size w6 z (bs ++ [tb]) (j + 1)) := HTS.out.snoc (fun g' cs hb => ((hb.later hb5).alloc _).grown hg6 (fun e => by injection e with e; exact hrow5.ne_blk (hb.later hb5) (by decide) e.symm)) (by omega)
        (by rw [← HSD.out]; exact (hblk.alloc _).grown hg6 (fun e => by injection e with e; exact hrow5.ne_blk hblk (by decide) e.symm))
      have hownN : w6.ownsRow w.heap.size 30 1 (.slice (some ⟨w.heap.size, 0, none⟩) (j + 1) n) (j + 1) (ptrs (bs ++ [tb])) := by
        unfold ptrs at hown6 ⊢
        rw [List.map_append]; exact hown6
      clear hown6 hg6 hown hown5 hrow5 hblk hb5
      go_wp2_with fail
      go_roundg (n - (j + 1))
      case measure => rw [KK.out]; omega
      case rel => exact ⟨j + 1, bs ++ [tb], rfl, by omega, by go_num, rfl, hownN, HT6, hb6⟩
    · obtain rfl : n = j := by omega
      clear hlt
      have hrow := Row.of_own hown
      have hbl := HTS.out.1
      have hsz := hbel.size
      have hwlt := hrow.lt
      have HSQ : Hid (∀ W, W = wr.alloc (.cells #[.slice (some ⟨w.heap.size, 0, none⟩) n n] 37) → ∀ q : Option Nat, (∀ g, q = some g → g < w.heap.size) → SaysG q W 26 wr.heap.size (PS.join ⟨#[32]⟩ (z.map Spec.text))) := by
        intro W hW q hq
        have hbW : Below wr.heap.size wr W := by rw [hW]; exact (Below.refl _ _).alloc (Nat.le_refl _) _
        refine seq_saysG (fun e => by have := hq _ e.symm; omega) (A := some ⟨w.heap.size, 0, none⟩) (c := n) (bs := bs) (by rw [hW, hbl]; exact Blk.new wr _ _)
          (.inr ⟨w.heap.size, rfl, fun e => by have := hq _ e.symm; omega, hrow.later hbW⟩) (by rw [List.length_map, HL.out, hbl]) (by omega) ?_ HT.out
        intro i hi
        exact (TermsS.says (by rw [HL.out]; exact HTS.out) hq HS.out i hi).later hbW
      clear hown hrow hbl
      go_wp2_with fail
      go_ret
      exact ⟨wr.heap.size, rfl, by omega, by simp, HSQ.out _ rfl, hbel.alloc hsz _⟩
end Go.Proofs.Ytjneojglklbbfaa
