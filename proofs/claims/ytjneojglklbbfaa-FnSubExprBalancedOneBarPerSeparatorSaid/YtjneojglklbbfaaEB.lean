/-
  What the String methods of the EBNF tree return, told level by level: a term, a sequence, an expression, a group. Conditions: the tree's memory is as stated.
-/
import Derived.Test.YtjneojglklbbfaaRows
import Derived.Test.YtjneojglklbbfaaKit
import Derived.Test.YtjneojglklbbfaaStr
import Derived.WalkKit
import Derived.WalkSpells
import Derived.WalkLawsBesides
import Derived.Outline
import Derived.Deep.RegionHeld3
import Derived.Deep.QuietTactic
import Derived.BigQuiet
import Derived.Deep.LoopGhost
import Derived.Deep.RegionWith
namespace Go.Proofs.Ytjneojglklbbfaa
open Go.RowKit
set_option linter.unusedSimpArgs false
set_option linter.unusedVariables false

/-- In every later world the function f, called on the pointer to block b, returns the string s and keeps old memory. -/
def Says (w : World) (f b : Nat) (s : ByteArray) : Prop :=
  ∀ w', Below w.heap.size w w' → Calls Try.prog f #[.pointer (some ⟨b, 0, none⟩)] w' fun e w'' => e = .returned (.string s) ∧ Below w'.heap.size w' w''
theorem Says.later {w w' : World} {f b : Nat} {s : ByteArray} (h : Says w f b s) (hb : Below w.heap.size w w') : Says w' f b s := fun w'' h2 => h w'' (below_next h2 hb)

section
variable {w : World} {b : Nat}
set_option maxRecDepth 100000 in
theorem term_name {ng : Bool} {nm lt tk rp : ByteArray} {g : Value} (hb : Blk w b 33 #[.bool ng, .string nm, .string lt, .string tk, g, .string rp]) (hn : nm.toList.isEmpty = false) (h1 : nm.size ≤ 1073741824) (h2 : rp.size ≤ 1073741824) :
    Says w 38 b (nm ++ rp) := by
  intro w' hw
  have hb' := hb.later hw
  have c1 := hb'.cell 1
  have c5 := hb'.cell 5
  simp at c1 c5
  clear hb hb' hw
  go_enter Try.func38, Try.ntmps38
  go_wp2_with fail
  go_quiet (fail)
  go_wp2_with fail
  go_ret
  exact ⟨rfl, below_drewN (Below.refl _ _) _⟩
set_option maxRecDepth 100000 in
theorem term_lit {ng : Bool} {lt tk rp : ByteArray} {g : Value} (hb : Blk w b 33 #[.bool ng, .string ⟨#[]⟩, .string lt, .string tk, g, .string rp]) (hn : lt.toList.isEmpty = false) (h1 : lt.size ≤ 1073741824) (h2 : rp.size ≤ 1073741824) :
    Says w 38 b (lt ++ rp) := by
  intro w' hw
  have hb' := hb.later hw
  have c1 := hb'.cell 1
  have c2 := hb'.cell 2
  have c5 := hb'.cell 5
  simp at c1 c2 c5
  clear hb hb' hw
  go_enter Try.func38, Try.ntmps38
  go_wp2_with fail
  go_quiet (fail)
  go_wp2_with fail
  go_ret
  exact ⟨rfl, below_drewN (Below.refl _ _) _⟩
set_option maxRecDepth 100000 in
theorem term_tok {ng : Bool} {tk rp : ByteArray} {g : Value} (hb : Blk w b 33 #[.bool ng, .string ⟨#[]⟩, .string ⟨#[]⟩, .string tk, g, .string rp]) (hn : tk.toList.isEmpty = false) (h1 : tk.size ≤ 1073741824) (h2 : rp.size ≤ 1073741824) :
    Says w 38 b ((⟨#[60]⟩ : ByteArray) ++ tk ++ ⟨#[62]⟩ ++ rp) := by
  intro w' hw
  have hb' := hb.later hw
  have c1 := hb'.cell 1
  have c2 := hb'.cell 2
  have c3 := hb'.cell 3
  have c5 := hb'.cell 5
  simp at c1 c2 c3 c5
  clear hb hb' hw
  go_enter Try.func38, Try.ntmps38
  go_wp2_with fail
  go_quiet (fail)
  go_wp2_with fail
  go_ret
  exact ⟨rfl, below_drewN (Below.refl _ _) _⟩
/-- Pointers to the heads of blocks. -/
def ptrs (bs : List Nat) : List Value := bs.map fun b => .pointer (some ⟨b, 0, none⟩)
theorem ptrs_at {bs : List Nat} {i : Nat} (h : i < bs.length) : (ptrs bs)[i]? = some (.pointer (some ⟨bs.getD i 0, 0, none⟩)) := by
  simp [ptrs, List.getElem?_eq_getElem h]
/-- A slice value whose elements are the pointers bs. -/
def Ptrs (w : World) (t : TypeId) (A : Option Addr) (bs : List Nat) : Prop := bs = [] ∨ ∃ g, A = some ⟨g, 0, none⟩ ∧ Row w g t (ptrs bs)
theorem Ptrs.later {w w' : World} {t : TypeId} {A : Option Addr} {bs : List Nat} (h : Ptrs w t A bs) (hb : Below w.heap.size w w') : Ptrs w' t A bs := by
  rcases h with h | ⟨g, h1, h2⟩
  · exact .inl h
  · exact .inr ⟨g, h1, h2.later hb⟩
set_option maxHeartbeats 1000000 in
set_option maxRecDepth 100000 in
theorem seq_says {A : Option Addr} {c : Nat} {bs : List Nat} {ss : List ByteArray} (hb : Blk w b 37 #[.slice A bs.length c]) (hp : Ptrs w 30 A bs) (hl : ss.length = bs.length) (hn : bs.length ≤ 1048576)
    (hs : ∀ i, i < bs.length → Says w 38 (bs.getD i 0) (ss.getD i ByteArray.empty)) (ht : PS.tot ss ≤ 1073741824) :
    Says w 26 b (PS.join ⟨#[32]⟩ ss) := by
  intro w0 hw
  have c0 := (hb.later hw).cell 0
  simp at c0
  have HS : Hid (∀ i, i < bs.length → Says w0 38 (bs.getD i 0) (ss.getD i ByteArray.empty)) := fun i hi => (hs i hi).later hw
  have HP := Lib.hid (hp.later hw)
  have HL := Lib.hid hl
  have HTT := Lib.hid ht
  obtain ⟨n, hnd⟩ : ∃ n, n = bs.length := ⟨_, rfl⟩
  rw [← hnd] at c0 hn
  have HN := Lib.hid hnd
  clear hb hp hs hw hl ht hnd
  go_enter Try.func26, Try.ntmps26
  go_wp2_with fail
  go_loopg [2, 3, 4, 10] n (fun k o _ _ i wr => ∃ j : Nat, k = n - j ∧ j ≤ n ∧ i = .int .i64 j ∧ o = .string (PS.join ⟨#[32]⟩ (ss.take j)) ∧ Below w0.heap.size w0 wr)
  case atStart => exact ⟨0, rfl, Nat.zero_le _, rfl, rfl, Below.refl _ _⟩
  case round =>
    obtain ⟨j, hk, hj, rfl, rfl, hbel⟩ := hrel
    have KK := Lib.hid hk; clear hk
    have hsz := Nat.le_trans (Nat.le_trans (PS.join_size (sep := ⟨#[32]⟩) (by decide) (ss.take j)) (PS.tot_take ss j)) HTT.out
    by_cases hlt : j < n
    · rcases HP.out with h0 | ⟨g, hA, hrow⟩
      · exfalso; have := HN.out; rw [h0] at this; simp at this; omega
      subst hA
      have hcj := (hrow.later hbel).cell (ptrs_at (i := j) (by rw [← HN.out]; exact hlt))
      have hsj : Says wr 38 (bs.getD j 0) (ss.getD j ByteArray.empty) := (HS.out j (by rw [← HN.out]; exact hlt)).later hbel
      have hss := Nat.le_trans (PS.tot_get ss j (by rw [HL.out, ← HN.out]; exact hlt)) HTT.out
      have hts := PS.take_snoc ss j (by rw [HL.out, ← HN.out]; exact hlt)
      obtain ⟨bj, hbj⟩ : ∃ x, x = bs.getD j 0 := ⟨_, rfl⟩
      obtain ⟨sj, hsd⟩ : ∃ x, x = ss.getD j ByteArray.empty := ⟨_, rfl⟩
      rw [← hbj] at hcj hsj
      rw [← hsd] at hsj hss hts
      have HTS := Lib.hid hts; clear hts hbj hsd hrow
      have HSJ := Lib.hid hsj; clear hsj
      have hi0 : (0 : Int) ≤ (j : Int) := by omega
      have hi1 : (j : Int) < (n : Int) := by omega
      by_cases hj0 : 0 < j
      · have hjs : PS.join ⟨#[32]⟩ (ss.take (j + 1)) = PS.join ⟨#[32]⟩ (ss.take j) ++ (⟨#[32]⟩ : ByteArray) ++ sj := by
          rw [HTS.out, PS.join_snoc]
          intro e
          have := congrArg List.length e
          simp at this
          have h2 := HL.out
          have h3 := HN.out
          rcases this with h | h
          · omega
          · rw [h] at h2; simp at h2; omega
        have HJS := Lib.hid hjs; clear hjs
        have hj0' : (0 : Int) < (j : Int) := by omega
        generalize PS.join ⟨#[32]⟩ (ss.take j) = o at hsz HJS ⊢
        go_wp2_with fail
        refine (HSJ.out _ (Below.refl _ _)).mono ?_
        rintro e w1 ⟨rfl, hb1⟩
        have hbw1 := below_next hb1 hbel
        go_wp2_with fail
        go_roundg (n - (j + 1))
        case measure => rw [KK.out]; omega
        case rel => exact ⟨j + 1, rfl, by omega, by go_num, by rw [HJS.out], hbw1⟩
      · obtain rfl : j = 0 := by omega
        have hjs : PS.join ⟨#[32]⟩ (ss.take (0 + 1)) = sj := by rw [HTS.out]; rfl
        have HJS := Lib.hid hjs; clear hjs
        rw [show PS.join ⟨#[32]⟩ (ss.take 0) = ByteArray.empty from rfl] at hsz ⊢
        go_wp2_with fail
        refine (HSJ.out _ (Below.refl _ _)).mono ?_
        rintro e w1 ⟨rfl, hb1⟩
        have hbw1 := below_next hb1 hbel
        go_wp2_with fail
        go_roundg (n - (0 + 1))
        case measure => rw [KK.out]; omega
        case rel => exact ⟨0 + 1, rfl, by omega, by go_num, by rw [HJS.out], hbw1⟩
    · obtain rfl : n = j := by omega
      have hfin : ss.take n = ss := List.take_of_length_le (by rw [HL.out, ← HN.out]; exact Nat.le_refl _)
      rw [hfin] at hsz ⊢
      clear hfin
      go_wp2_with fail
      go_ret
      exact ⟨rfl, hbel⟩
set_option maxHeartbeats 1000000 in
set_option maxRecDepth 100000 in
theorem expr_says {A : Option Addr} {c : Nat} {bs : List Nat} {ss : List ByteArray} (hb : Blk w b 41 #[.slice A bs.length c]) (hp : Ptrs w 34 A bs) (hl : ss.length = bs.length) (hn : bs.length ≤ 1048576)
    (hs : ∀ i, i < bs.length → Says w 26 (bs.getD i 0) (ss.getD i ByteArray.empty)) (ht : PS.tot ss ≤ 1073741824) :
    Says w 32 b (PS.join ⟨#[32, 124, 32]⟩ ss) := by
  intro w0 hw
  have c0 := (hb.later hw).cell 0
  simp at c0
  have HS : Hid (∀ i, i < bs.length → Says w0 26 (bs.getD i 0) (ss.getD i ByteArray.empty)) := fun i hi => (hs i hi).later hw
  have HP := Lib.hid (hp.later hw)
  have HL := Lib.hid hl
  have HTT := Lib.hid ht
  obtain ⟨n, hnd⟩ : ∃ n, n = bs.length := ⟨_, rfl⟩
  rw [← hnd] at c0 hn
  have HN := Lib.hid hnd
  clear hb hp hs hw hl ht hnd
  go_enter Try.func32, Try.ntmps32
  go_wp2_with fail
  go_loopg [2, 3, 4, 10] n (fun k o _ _ i wr => ∃ j : Nat, k = n - j ∧ j ≤ n ∧ i = .int .i64 j ∧ o = .string (PS.join ⟨#[32, 124, 32]⟩ (ss.take j)) ∧ Below w0.heap.size w0 wr)
  case atStart => exact ⟨0, rfl, Nat.zero_le _, rfl, rfl, Below.refl _ _⟩
  case round =>
    obtain ⟨j, hk, hj, rfl, rfl, hbel⟩ := hrel
    have KK := Lib.hid hk; clear hk
    have hsz := Nat.le_trans (Nat.le_trans (PS.join_size (sep := ⟨#[32, 124, 32]⟩) (by decide) (ss.take j)) (PS.tot_take ss j)) HTT.out
    by_cases hlt : j < n
    · rcases HP.out with h0 | ⟨g, hA, hrow⟩
      · exfalso; have := HN.out; rw [h0] at this; simp at this; omega
      subst hA
      have hcj := (hrow.later hbel).cell (ptrs_at (i := j) (by rw [← HN.out]; exact hlt))
      have hsj : Says wr 26 (bs.getD j 0) (ss.getD j ByteArray.empty) := (HS.out j (by rw [← HN.out]; exact hlt)).later hbel
      have hss := Nat.le_trans (PS.tot_get ss j (by rw [HL.out, ← HN.out]; exact hlt)) HTT.out
      have hts := PS.take_snoc ss j (by rw [HL.out, ← HN.out]; exact hlt)
      obtain ⟨bj, hbj⟩ : ∃ x, x = bs.getD j 0 := ⟨_, rfl⟩
      obtain ⟨sj, hsd⟩ : ∃ x, x = ss.getD j ByteArray.empty := ⟨_, rfl⟩
      rw [← hbj] at hcj hsj
      rw [← hsd] at hsj hss hts
      have HTS := Lib.hid hts; clear hts hbj hsd hrow
      have HSJ := Lib.hid hsj; clear hsj
      have hi0 : (0 : Int) ≤ (j : Int) := by omega
      have hi1 : (j : Int) < (n : Int) := by omega
      by_cases hj0 : 0 < j
      · have hjs : PS.join ⟨#[32, 124, 32]⟩ (ss.take (j + 1)) = PS.join ⟨#[32, 124, 32]⟩ (ss.take j) ++ (⟨#[32, 124, 32]⟩ : ByteArray) ++ sj := by
          rw [HTS.out, PS.join_snoc]
          intro e
          have := congrArg List.length e
          simp at this
          have h2 := HL.out
          have h3 := HN.out
          rcases this with h | h
          · omega
          · rw [h] at h2; simp at h2; omega
        have HJS := Lib.hid hjs; clear hjs
        have hj0' : (0 : Int) < (j : Int) := by omega
        generalize PS.join ⟨#[32, 124, 32]⟩ (ss.take j) = o at hsz HJS ⊢
        go_wp2_with fail
        refine (HSJ.out _ (Below.refl _ _)).mono ?_
        rintro e w1 ⟨rfl, hb1⟩
        have hbw1 := below_next hb1 hbel
        go_wp2_with fail
        go_roundg (n - (j + 1))
        case measure => rw [KK.out]; omega
        case rel => exact ⟨j + 1, rfl, by omega, by go_num, by rw [HJS.out], hbw1⟩
      · obtain rfl : j = 0 := by omega
        have hjs : PS.join ⟨#[32, 124, 32]⟩ (ss.take (0 + 1)) = sj := by rw [HTS.out]; rfl
        have HJS := Lib.hid hjs; clear hjs
        rw [show PS.join ⟨#[32, 124, 32]⟩ (ss.take 0) = ByteArray.empty from rfl] at hsz ⊢
        go_wp2_with fail
        refine (HSJ.out _ (Below.refl _ _)).mono ?_
        rintro e w1 ⟨rfl, hb1⟩
        have hbw1 := below_next hb1 hbel
        go_wp2_with fail
        go_roundg (n - (0 + 1))
        case measure => rw [KK.out]; omega
        case rel => exact ⟨0 + 1, rfl, by omega, by go_num, by rw [HJS.out], hbw1⟩
    · obtain rfl : n = j := by omega
      have hfin : ss.take n = ss := List.take_of_length_le (by rw [HL.out, ← HN.out]; exact Nat.le_refl _)
      rw [hfin] at hsz ⊢
      clear hfin
      go_wp2_with fail
      go_ret
      exact ⟨rfl, hbel⟩
/-- The mark of a lookahead, as the printer writes it. -/
def laText (la : Int) (t : ByteArray) : ByteArray := if la = 0 then ⟨#[]⟩ else (⟨#[63]⟩ : ByteArray) ++ t
set_option maxRecDepth 100000 in
theorem sub_plain {e : Nat} {s : ByteArray} (hb : Blk w b 43 #[.int .i32 0, .pointer (some ⟨e, 0, none⟩)]) (hs : Says w 32 e s) (h1 : s.size ≤ 2147483648) :
    Says w 15 b ((⟨#[40]⟩ : ByteArray) ++ (s ++ ⟨#[41]⟩)) := by
  intro w' hw
  have hb' := hb.later hw
  have c0 := hb'.cell 0
  have c1 := hb'.cell 1
  simp at c0 c1
  have HS := Lib.hid (hs.later hw)
  clear hb hb' hw hs
  go_enter Try.func15, Try.ntmps15
  go_wp2_with fail
  refine (HS.out _ (Below.refl _ _)).mono ?_
  rintro e w1 ⟨rfl, hb1⟩
  go_wp2_with fail
  go_ret
  exact ⟨rfl, hb1⟩
set_option maxRecDepth 100000 in
theorem sub_look {e : Nat} {s t : ByteArray} {la : Int} (hb : Blk w b 43 #[.int .i32 la, .pointer (some ⟨e, 0, none⟩)]) (hla : (la != 0) = true) (ht : ∀ W, (convert 26 9 (.int .i32 la)).run Try.prog W = Result.ok (.string t) W) (h2 : t.size ≤ 16)
    (hs : Says w 32 e s) (h1 : s.size ≤ 2147483648) :
    Says w 15 b ((⟨#[40]⟩ : ByteArray) ++ ((⟨#[63]⟩ : ByteArray) ++ t) ++ (s ++ ⟨#[41]⟩)) := by
  intro w' hw
  have hb' := hb.later hw
  have c0 := hb'.cell 0
  have c1 := hb'.cell 1
  simp at c0 c1
  have HS := Lib.hid (hs.later hw)
  clear hb hb' hw hs
  go_enter Try.func15, Try.ntmps15
  go_wp2_with fail
  refine (HS.out _ (Below.refl _ _)).mono ?_
  rintro e w1 ⟨rfl, hb1⟩
  go_wp2_with fail
  go_ret
  exact ⟨rfl, hb1⟩
theorem heldT {w0 w' : World} {b : Nat} {cs : Array Value} {g rp : Value} (h : Blk w' b 33 cs) (hb : Below w0.heap.size w0 w') (h4 : cs[4]? = some g) (h5 : cs[5]? = some rp) :
    Blk w' b 33 cs ∧ Below w0.heap.size w0 w' ∧ w'.cell? ⟨b, 4, none⟩ = some g ∧ w'.cell? ⟨b, 5, none⟩ = some rp := ⟨h, hb, (h.cell 4).trans h4, (h.cell 5).trans h5⟩
set_option maxRecDepth 100000 in
theorem term_group {ng : Bool} {rp s : ByteArray} {g : Nat} (hb : Blk w b 33 #[.bool ng, .string ⟨#[]⟩, .string ⟨#[]⟩, .string ⟨#[]⟩, .pointer (some ⟨g, 0, none⟩), .string rp]) (hs : Says w 15 g s) (h1 : s.size ≤ 2147483648) (h2 : rp.size ≤ 1073741824) :
    Says w 38 b (s ++ rp) := by
  intro w' hw
  have hb' := hb.later hw
  have c1 := hb'.cell 1
  have c2 := hb'.cell 2
  have c3 := hb'.cell 3
  have c4 := hb'.cell 4
  have c5 := hb'.cell 5
  simp at c1 c2 c3 c4 c5
  have HS := Lib.hid (hs.later hw)
  have hns : ¬ ((9223372036854775807 : Int) < (s.size : Int) + (rp.size : Int)) := by omega
  have hnd : decide ((9223372036854775807 : Int) < (s.size : Int) + (rp.size : Int)) = false := by simp; omega
  have hadd := fun W => run_string_add_sum (P := Try.prog) (w := W) s rp (by omega)
  clear hb hw hs
  go_enter Try.func38, Try.ntmps38
  go_wp2_with fail
  go_region_held3 (fun W => Blk W b 33 #[.bool ng, .string ⟨#[]⟩, .string ⟨#[]⟩, .string ⟨#[]⟩, .pointer (some ⟨g, 0, none⟩), .string rp] ∧ Below w'.heap.size w' W ∧ W.cell? ⟨b, 4, none⟩ = some (.pointer (some ⟨g, 0, none⟩)) ∧ W.cell? ⟨b, 5, none⟩ = some (.string rp))
    (first | assumption | exact heldT hb'.drew (Below.refl _ _).drew rfl rfl | (go_split_ands; exact heldT (Blk.later (by assumption) hbl) (below_next hbl (by assumption)) rfl rfl))
    (first | (go_at_call 15; refine (HS.out _ (by go_split_ands; assumption)).mono ?_; rintro e W ⟨rfl, hbl⟩))
  obtain ⟨-, hbe, -⟩ := ‹Blk _ b 33 _ ∧ _›
  go_wp2_with fail
  go_ret
  exact ⟨rfl, hbe⟩
end
end Go.Proofs.Ytjneojglklbbfaa
