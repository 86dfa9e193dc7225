/-
  The walk of FnExpressionStringDecodesToAlternatives: the printed expression splits back into its alternatives and names. Conditions: none beyond the statement's own.
-/
import Derived.Test.YtjneojglklbbfaaB2
namespace Go.Proofs.Ytjneojglklbbfaa
open Go.RowKit
set_option linter.unusedSimpArgs false
set_option linter.unusedVariables false
/-! ### the plain law -/
theorem word_pos {x : ByteArray} (h : PS.Word x.data.toList) : 0 < x.size := by
  have h0 := h.1
  rcases Nat.eq_zero_or_pos x.size with e | e
  · exfalso; apply h0; apply List.eq_nil_of_length_eq_zero; simpa using e
  · exact e
theorem jn_ge (sep acc : ByteArray) (xs : List ByteArray) : acc.size ≤ (PS.jn sep acc xs).size := by
  induction xs generalizing acc with
  | nil => exact Nat.le_refl _
  | cons x r ih =>
    have := ih (acc ++ sep ++ x)
    simp only [PS.size_app] at this
    show acc.size ≤ (PS.jn sep (acc ++ sep ++ x) r).size
    omega
theorem join_pos {sep x : ByteArray} {xs : List ByteArray} (h : 0 < x.size) : 0 < (PS.join sep (x :: xs)).size := Nat.lt_of_lt_of_le h (jn_ge sep x xs)
/-- Alternatives that the statement takes. -/
def Fine (a : List ByteArray) : Prop := a ≠ [] ∧ ∀ x ∈ a, PS.Word x.data.toList
theorem Fine.pos {a : List ByteArray} (h : Fine a) : 0 < (nmText a).size := by
  obtain ⟨h0, h1⟩ := h
  cases a with
  | nil => exact absurd rfl h0
  | cons x r => exact join_pos (word_pos (h1 x (by simp)))
theorem Fine.split {a : List ByteArray} (h : Fine a) : splF (nmText a) 32 = a := by
  have hp := h.pos
  unfold splF
  rw [if_neg (by omega)]
  obtain ⟨h0, h1⟩ := h
  cases a with
  | nil => exact absurd rfl h0
  | cons x r => exact PS.splAt_join 32 x r (fun y hy => (h1 y hy).2.1)
theorem splS_alts (z : List (List ByteArray)) (h : ∀ a ∈ z, Fine a) : splS (PS.join ⟨#[32, 124, 32]⟩ (z.map nmText)) = z.map nmText := by
  cases z with
  | nil => rfl
  | cons a r =>
    have hp : 0 < (PS.join ⟨#[32, 124, 32]⟩ ((a :: r).map nmText)).size := join_pos (h a (by simp)).pos
    unfold splS
    rw [if_neg (by omega)]
    exact PS.spsAt_join a r h
theorem fine_of {a : List ByteArray} {n : Nat} (hl : a.length = n) (h0 : 0 < n) (h : ∀ k, k < n → altB (a.getD k ByteArray.empty) = true) : Fine a := by
  refine ⟨fun e => by rw [e] at hl; simp at hl; omega, fun x hx => ?_⟩
  obtain ⟨k, hk, rfl⟩ := List.getElem_of_mem hx
  have := h k (by omega)
  rw [List.getD_eq_getElem?_getD, List.getElem?_eq_getElem hk] at this
  exact altB_word this
theorem all_of_getD {α : Type} {z : List (List α)} {p : List α → Prop} (h : ∀ i, i < z.length → p (z.getD i [])) : ∀ a ∈ z, p a := by
  intro a ha
  obtain ⟨k, hk, rfl⟩ := List.getElem_of_mem ha
  have := h k hk
  rw [List.getD_eq_getElem?_getD, List.getElem?_eq_getElem hk] at this
  exact this
theorem mem_getD {a : List ByteArray} {k : Nat} (h : k < a.length) : a.getD k ByteArray.empty ∈ a := by
  rw [List.getD_eq_getElem?_getD, List.getElem?_eq_getElem h]; simp
theorem map_nm_at (z : List (List ByteArray)) (i : Nat) (h : i < z.length) : (z.map nmText).getD i ByteArray.empty = nmText (z.getD i []) := by
  simp [List.getElem?_eq_getElem h]
/-! ### what is built -/
theorem news2n {w : World} {o1 : Obj} {v : Value} {t : TypeId} : ∀ (j : Nat) (u : Value), [v][j]? = some u → ((w.alloc o1).alloc (.cells #[v] t)).cell? ((⟨w.heap.size + 1, 0, none⟩ : Addr).add j) = some u := by
  have e : w.heap.size + 1 = (w.alloc o1).heap.size := by simp
  rw [e]
  exact one_news
def nameCells (nm : ByteArray) : Array Value := #[.bool false, .string nm, .string ⟨#[]⟩, .string ⟨#[]⟩, .pointer none, .string ⟨#[]⟩]
/-- The named terms that were built so far, in blocks from B on. -/
def TermsN (B : Nat) (w : World) (z : List ByteArray) (ts : List Nat) (j : Nat) : Prop :=
  ts.length = j ∧ ∀ i, i < j → B ≤ ts.getD i 0 ∧ Blk w (ts.getD i 0) 33 (nameCells (z.getD i ByteArray.empty))
theorem TermsN.snoc {B : Nat} {w w' : World} {z : List ByteArray} {ts : List Nat} {j b : Nat} (h : TermsN B w z ts j) (hk : ∀ g cs, Blk w g 33 cs → Blk w' g 33 cs) (hB : B ≤ b)
    (hb : Blk w' b 33 (nameCells (z.getD j ByteArray.empty))) : TermsN B w' z (ts ++ [b]) (j + 1) := by
  refine ⟨by simp [h.1], fun i hi => ?_⟩
  rcases Nat.lt_or_ge i j with g | g
  · rw [getD_snoc_ltN _ _ (by rw [h.1]; exact g)]; exact ⟨(h.2 i g).1, hk _ _ (h.2 i g).2⟩
  · obtain rfl : i = j := by omega
    have := getD_snoc_atN ts b
    rw [h.1] at this
    rw [this]; exact ⟨hB, hb⟩
theorem TermsN.says {B : Nat} {w : World} {z : List ByteArray} {ts : List Nat} {q : Option Nat} (h : TermsN B w z ts z.length) (hq : ∀ g, q = some g → g < B) (hp : ∀ i, i < z.length → 0 < (z.getD i ByteArray.empty).size ∧ (z.getD i ByteArray.empty).size ≤ 1048576) :
    ∀ i, i < ts.length → SaysG q w 38 (ts.getD i 0) (z.getD i ByteArray.empty) := by
  intro i hi
  rw [h.1] at hi
  obtain ⟨h1, h2⟩ := h.2 i hi
  obtain ⟨h3, h4⟩ := hp i hi
  have := term_nameG (q := q) (fun e => by have := hq _ e.symm; omega) h2 (by rw [toList_empty, decide_eq_false_iff_not]; omega) (by omega) (by show 0 ≤ _; omega)
  have e : z.getD i ByteArray.empty ++ (⟨#[]⟩ : ByteArray) = z.getD i ByteArray.empty := PS.app_empty _
  rw [e] at this
  exact this
/-- The sequences that were built so far; writes to block g do not touch them. -/
def SeqsN (g : Nat) (w : World) (z : List (List ByteArray)) (bs : List Nat) (j : Nat) : Prop :=
  bs.length = j ∧ ∀ i, i < j → SaysG (some g) w 26 (bs.getD i 0) (nmText (z.getD i []))
theorem SeqsN.snoc {g : Nat} {w w' : World} {z : List (List ByteArray)} {bs : List Nat} {j b : Nat} (h : SeqsN g w z bs j) (hk : w.grownBy w' (some g)) (hb : SaysG (some g) w' 26 b (nmText (z.getD j []))) : SeqsN g w' z (bs ++ [b]) (j + 1) := by
  refine ⟨by simp [h.1], fun i hi => ?_⟩
  rcases Nat.lt_or_ge i j with q | q
  · rw [getD_snoc_ltN _ _ (by rw [h.1]; exact q)]; exact (h.2 i q).grown hk
  · obtain rfl : i = j := by omega
    have := getD_snoc_atN bs b
    rw [h.1] at this
    rw [this]; exact hb
namespace fnExpressionStringDecodesToAlternatives
set_option maxHeartbeats 8000000 in
set_option maxRecDepth 100000 in
theorem walk (A0 : Option Addr) (n0 c0 : Nat) (z0 : List (List ByteArray)) (w : World) (hv : Alts Strs w A0 n0 z0) :
    Calls Try.prog 9 #[.slice A0 n0 c0] w fun e w' => e = .returned (.bool true) ∧ Below w.heap.size w w' := by
  have hm0 := hv.2.1
  have HV := Lib.hid hv
  have HL := Lib.hid hv.1
  clear hv
  obtain ⟨i0, hi, hz0, hz1, hz2⟩ := info_parts ptrInfoS
  obtain ⟨i1, hi1, hy0, hy1, hy2⟩ := info_parts ptrInfoT
  go_enter Try.func9, Try.ntmps9
  go_wp2_with fail
  refine (zz A0 n0 c0 z0 _ HV.out).mono ?_
  rintro e w1 ⟨b, rfl, rfl, hb⟩
  unfold maxLen at hm0
  cases b
  · go_wp2_with fail
    go_ret
    exact ⟨rfl, Below.refl _ _⟩
  have hsum := hb rfl
  clear hb
  by_cases hs0 : n0 ≤ 4096
  case neg =>
    go_wp2_with fail
    all_goals first | (exfalso; omega) | (go_ret; exact ⟨rfl, Below.refl _ _⟩)
  have hsn : sumN z0 ≤ 1048576 := by omega
  clear hsum
  go_wp2_with fail
  go_loopg [3] n0 (fun k i wr => ∃ j : Nat, k = n0 - j ∧ j ≤ n0 ∧ i = .int .i64 j ∧ wr = w ∧ Hid (∀ i, i < j → (z0.getD i []).length ≤ 4096))
  case atStart => exact ⟨0, rfl, Nat.zero_le _, rfl, rfl, Lib.hid (fun i hi => absurd hi (Nat.not_lt_zero _))⟩
  case round =>
    obtain ⟨j, hk, hj, rfl, rfl, HC⟩ := hrel
    have KK := Lib.hid hk; clear hk
    by_cases hlt : j < n0
    · rcases HV.out.split with h | ⟨b, off, rfl, hc⟩
      · exfalso; omega
      obtain ⟨Ai, ni, ci, hcj, hsi⟩ := hc.out j hlt
      have hni := hsi.2.1
      unfold maxLen at hni
      have HLI := Lib.hid hsi.1
      clear hc hsi
      have hi0 : (0 : Int) ≤ (j : Int) := by omega
      have hi1' : (j : Int) < (n0 : Int) := by omega
      go_wp2_with fail
      all_goals first
        | (go_ret; exact ⟨rfl, Below.refl _ _⟩)
        | (go_roundg (n0 - (j + 1))
           case measure => rw [KK.out]; omega
           case rel =>
             refine ⟨j + 1, rfl, by omega, by go_num, rfl, Lib.hid fun i hi => ?_⟩
             rcases Nat.lt_or_ge i j with g | g
             · exact HC.out i g
             · obtain rfl : i = j := by omega
               rw [HLI.out]; omega)
    · obtain rfl : n0 = j := by omega
      clear hlt
      go_wp2_with fail
      refine (altsBytes A0 n0 c0 z0 _ HV.out hsn hs0 HC.out).mono ?_
      rintro e w1 ⟨r, rfl, hr, rfl⟩
      by_cases hrr : r ≤ 1048576
      case neg =>
        go_wp2_with fail
        go_ret
        exact ⟨rfl, Below.refl _ _⟩
      go_wp2_with fail
      clear KK hj hr
      go_loopg [4] n0 (fun k i wx => ∃ j : Nat, k = n0 - j ∧ j ≤ n0 ∧ i = .int .i64 j ∧ wx = wr ∧ Hid (∀ i, i < j → Fine (z0.getD i [])))
      case atStart => exact ⟨0, rfl, Nat.zero_le _, rfl, rfl, Lib.hid (fun i hi => absurd hi (Nat.not_lt_zero _))⟩
      case round =>
        obtain ⟨j, hk, hj, rfl, rfl, HF⟩ := hrel
        have KK := Lib.hid hk; clear hk
        by_cases hlt : j < n0
        · rcases HV.out.split with h | ⟨b, off, rfl, hc⟩
          · exfalso; omega
          obtain ⟨Ai, ni, ci, hcj, hsi⟩ := hc.out j hlt
          have hni := HC.out j hlt
          rw [hsi.1] at hni
          have HLI := Lib.hid hsi.1
          have HSI := Lib.hid hsi
          have HFN : Hid (Fine (z0.getD j []) → ∀ i, i < j + 1 → Fine (z0.getD i [])) := fun h i hi => by
            rcases Nat.lt_or_ge i j with g | g
            · exact HF.out i g
            · obtain rfl : i = j := by omega
              exact h
          have hsb := sumN_get z0 j
          obtain ⟨zj, hzj⟩ : ∃ x, x = z0.getD j [] := ⟨_, rfl⟩
          rw [← hzj] at HLI HSI HFN hsb
          have HSB := Lib.hid hsb
          clear hc hsi hzj hsb
          have hi0 : (0 : Int) ≤ (j : Int) := by omega
          have hi1' : (j : Int) < (n0 : Int) := by omega
          by_cases hn0 : ni = 0
          · subst hn0
            go_wp2_with fail
            go_ret
            exact ⟨rfl, Below.refl _ _⟩
          have hne : ((ni : Int) == 0) = false := by simpa using hn0
          go_wp2_with fail
          go_loopg [5] ni (fun k i wx => ∃ l : Nat, k = ni - l ∧ l ≤ ni ∧ i = .int .i64 l ∧ wx = wr ∧ Hid (∀ i, i < l → altB (zj.getD i ByteArray.empty) = true))
          case atStart => exact ⟨0, rfl, Nat.zero_le _, rfl, rfl, Lib.hid (fun i hi => absurd hi (Nat.not_lt_zero _))⟩
          case round =>
            obtain ⟨l, hk, hl, rfl, rfl, HA⟩ := hrel
            have KI := Lib.hid hk; clear hk
            by_cases hlt2 : l < ni
            · rcases HSI.out.split with h | ⟨b2, off2, rfl, hc⟩
              · exfalso; omega
              have hcl := hc.out l hlt2
              have hsl := Nat.le_trans (PS.sumB_get zj l (by rw [HLI.out]; exact hlt2)) (show PS.sumB zj ≤ 1048576 by have := HSB.out; omega)
              have HAN : Hid (altB (zj.getD l ByteArray.empty) = true → ∀ i, i < l + 1 → altB (zj.getD i ByteArray.empty) = true) := fun h i hi => by
                rcases Nat.lt_or_ge i l with g | g
                · exact HA.out i g
                · obtain rfl : i = l := by omega
                  exact h
              generalize zj.getD l ByteArray.empty = sl at hcl hsl HAN
              clear hc
              have hl0 : (0 : Int) ≤ (l : Int) := by omega
              have hl1 : (l : Int) < (ni : Int) := by omega
              go_wp2_with fail
              refine (altName_any sl _ (by omega)).mono ?_
              rintro e w1 ⟨rfl, rfl⟩
              cases hp : altB sl
              · go_wp2_with fail
                go_ret
                exact ⟨rfl, Below.refl _ _⟩
              · have HAM := Lib.hid (HAN.out hp)
                clear hp
                go_wp2_with fail
                go_roundg (ni - (l + 1))
                case measure => rw [KI.out]; omega
                case rel => exact ⟨l + 1, rfl, by omega, by go_num, rfl, HAM⟩
            · obtain rfl : ni = l := by omega
              have HFM := Lib.hid (HFN.out (fine_of HLI.out (by omega) HA.out))
              go_wp2_with fail
              go_roundg (n0 - (j + 1))
              case measure => rw [KK.out]; omega
              case rel => exact ⟨j + 1, rfl, by omega, by go_num, rfl, HFM⟩
        · obtain rfl : n0 = j := by omega
          clear hlt hj KK hrr
          go_wp2_with fail
          refine (cloneNames A0 n0 c0 z0 _ HV.out (by omega) (fun i hi => Nat.le_trans (HC.out i hi) (by omega))).mono ?_
          rintro e w3 ⟨A3, c3, rfl, hv3, hbw3, -⟩
          have HV3 := Lib.hid hv3
          clear hv3
          have HW : Hid (∀ i, i < n0 → ∀ k, k < (z0.getD i []).length → 0 < ((z0.getD i []).getD k ByteArray.empty).size ∧ ((z0.getD i []).getD k ByteArray.empty).size ≤ 1048576) := fun i hi k hk => by
            have h1 := (HF.out i hi).2 ((z0.getD i []).getD k ByteArray.empty) (mem_getD hk)
            have h2 := sumN_get z0 i
            have h3 := PS.sumB_get (z0.getD i []) k hk
            exact ⟨word_pos h1, by omega⟩
          go_wp2_with (at_make; refine wpList_make_own _ rfl _ _ 39 rfl w3.heap.size 34 i0 _ 1 Try.underlying39 hi hz0 hz1 _ _ _ n0 rfl rfl rfl (by rw [hz2]; omega) (by unfold maxLen; omega) (Nat.le_refl _) ?_; intro w4 hown4 hg4)
          have hb4 : Below w3.heap.size w3 w4 := (Below.refl _ _).grown hg4 (Nat.le_refl _) (fun _ h => by cases h)
          clear hg4
          go_loopg [6, 7] n0 (fun k v i wr => ∃ (j : Nat) (bs : List Nat), k = n0 - j ∧ j ≤ n0 ∧ i = .int .i64 j ∧ v = .slice (some ⟨w3.heap.size, 0, none⟩) j n0 ∧ wr.ownsRow w3.heap.size 34 1 (.slice (some ⟨w3.heap.size, 0, none⟩) j n0) j (ptrs bs) ∧ Hid (SeqsN w3.heap.size wr z0 bs j) ∧ Below w3.heap.size w3 wr)
          case atStart => exact ⟨0, [], rfl, Nat.zero_le _, rfl, rfl, hown4, Lib.hid ⟨rfl, fun i hi => absurd hi (Nat.not_lt_zero _)⟩, hb4⟩
          case round =>
            obtain ⟨j, bs, hk, hj, rfl, rfl, hown, HTS, hbel⟩ := hrel
            have KK := Lib.hid hk; clear hk hb4 hown4
            obtain ⟨wo, rfl⟩ : ∃ x, x = wr := ⟨_, rfl⟩
            by_cases hlt : j < n0
            · rcases (HV3.out.later strs_kept hbel).split with h | ⟨b, off, rfl, hc⟩
              · exfalso; omega
              obtain ⟨Ai, ni, ci, hcj, hsi⟩ := hc.out j hlt
              have hni := HC.out j hlt
              rw [hsi.1] at hni
              have HLI := Lib.hid hsi.1
              have HSI := Lib.hid hsi
              have HWJ := Lib.hid (HW.out j hlt)
              have hto : PS.tot (z0.getD j []) ≤ 1073741824 := by
                have h1 := sumN_get z0 j
                rw [tot_sumB, hsi.1]; omega
              have HTO := Lib.hid hto
              obtain ⟨zj, hzj⟩ : ∃ x, x = z0.getD j [] := ⟨_, rfl⟩
              rw [← hzj] at HLI HSI HWJ HTO
              have HZJ := Lib.hid hzj
              clear hc hsi hzj hto
              have hi0 : (0 : Int) ≤ (j : Int) := by omega
              have hi1' : (j : Int) < (n0 : Int) := by omega
              have hsz := hbel.size
              have hgl := (Row.of_own hown).lt
              go_wp2_with (at_make; refine wpList_make_own _ rfl _ _ 35 rfl wo.heap.size 30 i1 _ 1 Try.underlying35 hi1 hy0 hy1 _ _ _ ni rfl rfl rfl (by rw [hy2]; omega) (by unfold maxLen; omega) (Nat.le_refl _) ?_; intro w5 hown5 hg5)
              have hb5 : Below wo.heap.size wo w5 := (Below.refl _ _).grown hg5 (Nat.le_refl _) (fun _ h => by cases h)
              clear hg5
              go_loopg [8, 9] ni (fun k v i wx => ∃ (l : Nat) (ts : List Nat), k = ni - l ∧ l ≤ ni ∧ i = .int .i64 l ∧ v = .slice (some ⟨wo.heap.size, 0, none⟩) l ni ∧ wx.ownsRow wo.heap.size 30 1 (.slice (some ⟨wo.heap.size, 0, none⟩) l ni) l (ptrs ts) ∧ Hid (TermsN wo.heap.size wx zj ts l) ∧ Below wo.heap.size wo wx)
              case atStart => exact ⟨0, [], rfl, Nat.zero_le _, rfl, rfl, hown5, Lib.hid ⟨rfl, fun i hi => absurd hi (Nat.not_lt_zero _)⟩, hb5⟩
              case round =>
                obtain ⟨l, ts, hk, hl, rfl, rfl, hownT, HTT, hbelI⟩ := hrel
                have KI := Lib.hid hk; clear hk hb5 hown5
                have hcj' := (hbelI.cell (p := ⟨b, off + j, none⟩) (World.block_lt_of_cell? _ _ hcj)).trans hcj
                have hszI := hbelI.size
                by_cases hlt2 : l < ni
                · rcases (HSI.out.later hbelI).split with h | ⟨b2, off2, rfl, hc⟩
                  · exfalso; omega
                  have hcl := hc.out l hlt2
                  obtain ⟨sl, hsl⟩ : ∃ x, x = zj.getD l ByteArray.empty := ⟨_, rfl⟩
                  rw [← hsl] at hcl
                  have HSL := Lib.hid hsl
                  clear hc hsl
                  have hl0 : (0 : Int) ≤ (l : Int) := by omega
                  have hl1 : (l : Int) < (ni : Int) := by omega
                  have hrowT := Row.of_own hownT
                  go_wp2_with (at_builtin; refine wpList_append_fits _ rfl _ _ 35 rfl wo.heap.size 30 i1 1 Try.underlying35 hi1 hy1 wo.heap.size l ni (ptrs ts) rfl ((hownT.alloc _).alloc _) ⟨wr.heap.size + 1, 0, none⟩ 1 1 [.pointer (some ⟨wr.heap.size, 0, none⟩)] rfl rfl news2n (by intro u hu; simp at hu; subst hu; rfl) (by omega) ?_; intro w6 hown6 hg6)
                  have hb6 : Below wo.heap.size wo w6 := ((hbelI.alloc hszI _).alloc (by simp; omega) _).grown hg6 (by simp; omega) (fun k hk => by injection hk with hk; omega)
                  have HT6 : Hid (TermsN wo.heap.size w6 zj (ts ++ [wr.heap.size]) (l + 1)) := HTT.out.snoc (fun g' cs hb => ((hb.alloc _).alloc _).grown hg6 (fun e => by injection e with e; exact hrowT.ne_blk hb (by decide) e.symm)) hszI
                    (by rw [← HSL.out]; exact ((Blk.new wr _ _).alloc _).grown hg6 (fun e => by injection e with e; have := hrowT.lt; omega))
                  have hownN : w6.ownsRow wo.heap.size 30 1 (.slice (some ⟨wo.heap.size, 0, none⟩) (l + 1) ni) (l + 1) (ptrs (ts ++ [wr.heap.size])) := by
                    unfold ptrs at hown6 ⊢
                    rw [List.map_append]; exact hown6
                  clear hown6 hg6 hownT hrowT hcl
                  go_wp2_with fail
                  go_roundg (ni - (l + 1))
                  case measure => rw [KI.out]; omega
                  case rel => exact ⟨l + 1, ts ++ [wr.heap.size], rfl, by omega, by go_num, rfl, hownN, HT6, hb6⟩
                · obtain rfl : ni = l := by omega
                  clear hlt2
                  have hrowT := Row.of_own hownT
                  have htl := HTT.out.1
                  have hwlt := hrowT.lt
                  have HSQ : Hid (∀ W, W = wr.alloc (.cells #[.slice (some ⟨wo.heap.size, 0, none⟩) ni ni] 37) → SaysG (some w3.heap.size) W 26 wr.heap.size (nmText zj)) := by
                    intro W hW
                    have hbW : Below wr.heap.size wr W := by rw [hW]; exact (Below.refl _ _).alloc (Nat.le_refl _) _
                    refine seq_saysG (fun e => by injection e with e; omega) (A := some ⟨wo.heap.size, 0, none⟩) (c := ni) (bs := ts) (by rw [hW, htl]; exact Blk.new wr _ _)
                      (.inr ⟨wo.heap.size, rfl, (fun e => by injection e with e; omega), hrowT.later hbW⟩) (by rw [HLI.out, htl]) (by omega) ?_ HTO.out
                    intro i hi
                    exact (TermsN.says (by rw [HLI.out]; exact HTT.out) (fun g h => by injection h with h; omega) HWJ.out i hi).later hbW
                  have hownO := own_later hown hbelI
                  have hbelO := below_next hbelI (w := w3) (W := wo) hbel
                  have hszO := hbelO.size
                  clear hownT hrowT htl
                  go_wp2_with (at_builtin; refine wpList_append_fits _ rfl _ _ 39 rfl w3.heap.size 34 i0 1 Try.underlying39 hi hz1 w3.heap.size j n0 (ptrs bs) rfl ((hownO.alloc _).alloc _) ⟨wr.heap.size + 1, 0, none⟩ 1 1 [.pointer (some ⟨wr.heap.size, 0, none⟩)] rfl rfl news2n (by intro u hu; simp at hu; subst hu; rfl) (by omega) ?_; intro w9 hown9 hg9)
                  have hb9 : Below w3.heap.size w3 w9 := ((hbelO.alloc hszO _).alloc (by simp; omega) _).grown hg9 (by simp; omega) (fun k hk => by injection hk with hk; omega)
                  have HT9 : Hid (SeqsN w3.heap.size w9 z0 (bs ++ [wr.heap.size]) (j + 1)) := HTS.out.snoc (grown_trans (grown_of_below hbelI _) (grown_trans (grown_alloc (grown_alloc (grown_refl _ _) _) _) hg9))
                    (by rw [← HZJ.out]; exact (HSQ.out _ rfl).grown (grown_trans (grown_alloc (grown_refl _ _) _) hg9))
                  have hownN : w9.ownsRow w3.heap.size 34 1 (.slice (some ⟨w3.heap.size, 0, none⟩) (j + 1) n0) (j + 1) (ptrs (bs ++ [wr.heap.size])) := by
                    unfold ptrs at hown9 ⊢
                    rw [List.map_append]; exact hown9
                  clear hown9 hg9 hown hownO HSQ
                  go_wp2_with fail
                  go_roundg (n0 - (j + 1))
                  case measure => rw [KK.out]; omega
                  case rel => exact ⟨j + 1, bs ++ [wr.heap.size], rfl, by omega, by go_num, rfl, hownN, HT9, hb9⟩
            · obtain rfl : n0 = j := by omega
              clear hlt
              have hrow := Row.of_own hown
              have hbl := HTS.out.1
              have hsz := hbel.size
              have hwlt := hrow.lt
              have htn := tot_names z0
              rw [HL.out] at htn
              have HSQ : Hid (∀ W, W = wo.alloc (.cells #[.slice (some ⟨w3.heap.size, 0, none⟩) n0 n0] 41) → SaysG none W 32 wo.heap.size (PS.join ⟨#[32, 124, 32]⟩ (z0.map nmText))) := by
                intro W hW
                have hbW : Below wo.heap.size wo W := by rw [hW]; exact (Below.refl _ _).alloc (Nat.le_refl _) _
                refine expr_saysG (fun e => by cases e) (A := some ⟨w3.heap.size, 0, none⟩) (c := n0) (bs := bs) (by rw [hW, hbl]; exact Blk.new wo _ _)
                  (.inr ⟨w3.heap.size, rfl, (fun e => by cases e), hrow.later hbW⟩) (by rw [List.length_map, HL.out, hbl]) (by omega) ?_ (by omega)
                intro i hi
                rw [map_nm_at z0 i (by rw [HL.out, ← hbl]; exact hi)]
                exact (saysG_none (HTS.out.2 i (by rw [← hbl]; exact hi))).later hbW
              clear hown hrow hbl
              go_wp2_with fail
              refine (HSQ.out _ rfl _ (grown_refl _ _)).mono ?_
              rintro e w5 ⟨rfl, hb5⟩
              have hb35 : Below w3.heap.size w3 w5 := below_next hb5 (hbel.alloc hsz _)
              have hjs : (PS.join ⟨#[32, 124, 32]⟩ (z0.map nmText)).size ≤ 1073741824 := by
                have h1 := PS.join_size (sep := ⟨#[32, 124, 32]⟩) (by decide) (z0.map nmText)
                omega
              have hsp := sep_any (PS.join ⟨#[32, 124, 32]⟩ (z0.map nmText)) w5 hjs
              rw [splS_alts z0 (all_of_getD (by rw [HL.out]; exact HF.out)), List.length_map, HL.out] at hsp
              have HSP := Lib.hid hsp; clear hsp hjs HSQ hb5 hsz htn
              generalize PS.join ⟨#[32, 124, 32]⟩ (z0.map nmText) = out at HSP ⊢
              go_wp2_with fail
              refine HSP.out.mono ?_
              rintro e w6 ⟨A6, c6, rfl, hv6, hb6⟩
              have hb36 := below_next hb6 hb35
              have HV6 := Lib.hid hv6
              have HV36 := Lib.hid (HV3.out.later strs_kept hb36)
              clear hv6 hb6 hb35 HSP
              go_wp2_with fail
              go_loopg [12] n0 (fun k i wr => ∃ j : Nat, k = n0 - j ∧ j ≤ n0 ∧ i = .int .i64 j ∧ Below w6.heap.size w6 wr)
              case atStart => exact ⟨0, rfl, Nat.zero_le _, rfl, Below.refl _ _⟩
              case round =>
                obtain ⟨j, hk, hj, rfl, hbel6⟩ := hrel
                have KK := Lib.hid hk; clear hk
                obtain ⟨wp, rfl⟩ : ∃ x, x = wr := ⟨_, rfl⟩
                by_cases hlt : j < n0
                · rcases (HV6.out.later hbel6).split with h | ⟨b6, o6, rfl, hc6⟩
                  · exfalso; omega
                  rcases (HV36.out.later strs_kept hbel6).split with h | ⟨b3, o3, rfl, hc3⟩
                  · exfalso; omega
                  have hcj := hc6.out j hlt
                  obtain ⟨Ai, ni, ci, hdj, hsi⟩ := hc3.out j hlt
                  rw [map_nm_at z0 j (by rw [HL.out]; exact hlt)] at hcj
                  have hni := HC.out j hlt
                  rw [hsi.1] at hni
                  have htx : (nmText (z0.getD j [])).size ≤ 1073741824 := by
                    have h1 := nmText_size (z0.getD j [])
                    have h2 := sumN_get z0 j
                    rw [hsi.1] at h1; omega
                  have hsp := fun W => split_any (nmText (z0.getD j [])) 32 32 rfl W htx
                  rw [(HF.out j hlt).split, hsi.1] at hsp
                  have HSP := Lib.hid hsp
                  have HSI := Lib.hid hsi
                  clear hc6 hc3 hsi hsp htx
                  generalize z0.getD j [] = zj at hcj HSP HSI
                  generalize nmText zj = tx at hcj HSP
                  have hi0 : (0 : Int) ≤ (j : Int) := by omega
                  have hi1' : (j : Int) < (n0 : Int) := by omega
                  go_wp2_with fail
                  refine (HSP.out _).mono ?_
                  rintro e w7 ⟨A7, c7, rfl, hv7, hb7⟩
                  have hdj7 := (hb7.cell (p := ⟨b3, o3 + j, none⟩) (World.block_lt_of_cell? _ _ hdj)).trans hdj
                  have HV7 := Lib.hid hv7
                  have HSI7 := Lib.hid (HSI.out.later hb7)
                  have hb67 := below_next hb7 hbel6
                  clear hv7 hb7 hcj hdj HSP HSI
                  go_wp2_with fail
                  go_loopg [14] ni (fun k i wx => ∃ l : Nat, k = ni - l ∧ l ≤ ni ∧ i = .int .i64 l ∧ Below w7.heap.size w7 wx)
                  case atStart => exact ⟨0, rfl, Nat.zero_le _, rfl, Below.refl _ _⟩
                  case round =>
                    obtain ⟨l, hk, hl, rfl, hbel7⟩ := hrel
                    have hdj7' := (hbel7.cell (p := ⟨b3, o3 + j, none⟩) (World.block_lt_of_cell? _ _ hdj7)).trans hdj7
                    have KI := Lib.hid hk; clear hk
                    by_cases hlt2 : l < ni
                    · rcases (HV7.out.later hbel7).split with h | ⟨b7, o7, rfl, hc7⟩
                      · exfalso; omega
                      rcases (HSI7.out.later hbel7).split with h | ⟨b8, o8, rfl, hc8⟩
                      · exfalso; omega
                      have hl7 := hc7.out l hlt2
                      have hl8 := hc8.out l hlt2
                      clear hc7 hc8
                      generalize zj.getD l ByteArray.empty = sl at hl7 hl8
                      have hl0 : (0 : Int) ≤ (l : Int) := by omega
                      have hl1 : (l : Int) < (ni : Int) := by omega
                      go_wp2_with fail
                      go_quiet (fail)
                      go_wp2_with fail
                      go_roundg (ni - (l + 1))
                      case measure => rw [KI.out]; omega
                      case rel => exact ⟨l + 1, rfl, by omega, by go_num, below_drewN hbel7 _⟩
                    · obtain rfl : ni = l := by omega
                      go_wp2_with fail
                      go_roundg (n0 - (j + 1))
                      case measure => rw [KK.out]; omega
                      case rel => exact ⟨j + 1, rfl, by omega, by go_num, below_next hbel7 hb67⟩
                · go_wp2_with fail
                  go_ret
                  exact ⟨rfl, hbw3.trans ((below_next hbel6 hb36).mono hbw3.size)⟩
end fnExpressionStringDecodesToAlternatives
end Go.Proofs.Ytjneojglklbbfaa
