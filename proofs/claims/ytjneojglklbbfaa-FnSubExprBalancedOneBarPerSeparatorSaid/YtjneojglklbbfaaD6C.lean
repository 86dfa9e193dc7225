/-
  The walk of FnSequenceStringDecodesToTerms: the printed sequence gives back each name and repetition. Conditions: none beyond the statement's own.
-/
import Derived.Test.YtjneojglklbbfaaD6B
import Derived.Deep.AppendLies
namespace Go.Proofs.Ytjneojglklbbfaa
open Go.RowKit
set_option linter.unusedSimpArgs false
set_option linter.unusedVariables false
namespace fnSequenceStringDecodesToTerms
/-- The bound's test: where it says yes the sums are small. -/
def ZZPost (w : World) (z : List ByteArray) (n m : Nat) (e : Ending) (w' : World) : Prop := ∃ b, e = .returned (.bool b) ∧ w = w' ∧ (b = true → PS.sumB z ≤ 1048576 ∧ n ≤ 1048576 ∧ m ≤ 1048576)
set_option maxRecDepth 100000 in
theorem zz (A1 : Option Addr) (n1 c1 : Nat) (z1 : List ByteArray) (A2 : Option Addr) (n2 c2 : Nat) (w : World) (hv : Strs w A1 n1 z1) (h2 : n2 ≤ maxLen) : Calls Try.prog 40 #[.slice A1 n1 c1, .slice A2 n2 c2] w (ZZPost w z1 n1 n2) := by
  have h1 := hv.2.1
  have HL := Lib.hid hv.1
  unfold maxLen at h1 h2
  rcases hv.split with h0 | ⟨b, off, rfl, hc⟩
  all_goals
    go_enter Try.func40, Try.ntmps40
    go_wp2_with fail
    all_goals try (go_ret; exact ⟨_, rfl, rfl, fun h => Bool.noConfusion h⟩)
    go_loopg [4, 5, 6] n1 (fun k u z i wr => ∃ j m : Nat, k = n1 - j ∧ j ≤ n1 ∧ m ≤ 1048576 ∧ z = .int .i64 m ∧ i = .int .i64 j ∧ wr = w ∧ u = .bool false ∧ Hid (m = n1 + PS.sumB (z1.take j)))
    case atStart => exact ⟨0, n1, rfl, Nat.zero_le _, by omega, rfl, rfl, rfl, rfl, Lib.hid rfl⟩
    case round =>
      obtain ⟨j, m, hk, hj, hm, rfl, rfl, rfl, rfl, HM⟩ := hrel
      have KK := Lib.hid hk; clear hk
      by_cases hlt : j < n1
      · first
          | (exfalso; omega)
          | (have hcj := hc.out j hlt
             have hsj := hv.size j
             have hss := PS.sumB_snoc z1 j (by rw [HL.out]; exact hlt)
             have HS := Lib.hid hss; clear hss
             generalize z1.getD j ByteArray.empty = sj at hcj hsj HS
             go_wp2_with fail
             all_goals first
               | (go_ret; exact ⟨_, rfl, rfl, fun h => Bool.noConfusion h⟩)
               | (go_roundg (n1 - (j + 1))
                  case measure => rw [KK.out]; omega
                  case rel => exact ⟨j + 1, m + sj.size, rfl, by omega, by omega, by go_num, by go_num, rfl, rfl, Lib.hid (by rw [HS.out, HM.out]; omega)⟩))
      · have hfin : z1.take j = z1 := List.take_of_length_le (by rw [HL.out]; omega)
        have hmm := HM.out
        rw [hfin] at hmm
        have HMM := Lib.hid hmm
        clear hmm hfin
        go_wp2_with fail
        all_goals (go_ret; first | exact ⟨_, rfl, rfl, fun h => Bool.noConfusion h⟩ | exact ⟨_, rfl, rfl, fun _ => ⟨by have := HMM.out; omega, by have := HMM.out; omega, by omega⟩⟩)
/-- A count between 0 and the bound's next. -/
def Count (w : World) (e : Ending) (w' : World) : Prop := ∃ r : Nat, e = .returned (.int .i64 r) ∧ r ≤ 1048577 ∧ w = w'
set_option maxRecDepth 100000 in
theorem strBytes (A1 : Option Addr) (n1 c1 : Nat) (z1 : List ByteArray) (w : World) (hv : Strs w A1 n1 z1) (hs : PS.sumB z1 ≤ 1048576) (h1 : n1 ≤ 4096) : Calls Try.prog 41 #[.slice A1 n1 c1] w (Count w) := by
  have HL := Lib.hid hv.1
  rcases hv.split with h0 | ⟨b, off, rfl, hc⟩
  all_goals
    go_enter Try.func41, Try.ntmps41
    go_wp2_with fail
    go_loopg [2, 3, 4] n1 (fun k u z i wr => ∃ j m : Nat, k = n1 - j ∧ j ≤ n1 ∧ m ≤ 1048576 ∧ z = .int .i64 m ∧ i = .int .i64 j ∧ wr = w ∧ u = .int .i64 0)
    case atStart => exact ⟨0, 0, rfl, Nat.zero_le _, by omega, rfl, rfl, rfl, rfl⟩
    case round =>
      obtain ⟨j, m, hk, hj, hm, rfl, rfl, rfl, rfl⟩ := hrel
      have KK := Lib.hid hk; clear hk
      by_cases hlt : j < n1
      · first
          | (exfalso; omega)
          | (have hcj := hc.out j hlt
             have hsj := Nat.le_trans (PS.sumB_get z1 j (by rw [HL.out]; exact hlt)) hs
             generalize z1.getD j ByteArray.empty = sj at hcj hsj
             go_wp2_with fail
             all_goals first
               | (go_ret; exact ⟨1048577, rfl, by omega, rfl⟩)
               | (go_roundg (n1 - (j + 1))
                  case measure => rw [KK.out]; omega
                  case rel => exact ⟨j + 1, m + (16 + sj.size), rfl, by omega, by omega, by go_num, by go_num, rfl, rfl⟩))
      · go_wp2_with fail
        all_goals (go_ret; exact ⟨m, rfl, by omega, rfl⟩)
/-- The cells of a named term. -/
def termCells (nm rp : ByteArray) : Array Value := #[.bool false, .string nm, .string ⟨#[]⟩, .string ⟨#[]⟩, .pointer none, .string rp]
/-- The terms that were built so far. -/
def Terms (w : World) (z : List ByteArray) (r : List Int) (bs : List Nat) (j : Nat) : Prop :=
  bs.length = j ∧ ∀ i, i < j → Blk w (bs.getD i 0) 33 (termCells (z.getD i ByteArray.empty) (PS.repT (repAt r i)))
theorem getD_snoc_lt {α : Type} (bs : List α) (b d : α) {i : Nat} (h : i < bs.length) : (bs ++ [b]).getD i d = bs.getD i d := by
  simp [List.getElem?_append_left h]
theorem getD_snoc_at {α : Type} (bs : List α) (b d : α) : (bs ++ [b]).getD bs.length d = b := by simp
theorem Terms.snoc {w w' : World} {z : List ByteArray} {r : List Int} {bs : List Nat} {j b : Nat} (h : Terms w z r bs j) (hk : ∀ g cs, Blk w g 33 cs → Blk w' g 33 cs)
    (hb : Blk w' b 33 (termCells (z.getD j ByteArray.empty) (PS.repT (repAt r j)))) : Terms w' z r (bs ++ [b]) (j + 1) := by
  refine ⟨by simp [h.1], fun i hi => ?_⟩
  rcases Nat.lt_or_ge i j with g | g
  · rw [getD_snoc_lt _ _ _ (by rw [h.1]; exact g)]; exact hk _ _ (h.2 i g)
  · obtain rfl : i = j := by omega
    have := getD_snoc_at bs b 0
    rw [h.1] at this
    rw [this]; exact hb
theorem Terms.says {w : World} {z : List ByteArray} {r : List Int} {bs : List Nat} (h : Terms w z r bs z.length) (hp : ∀ i, i < z.length → plainB (z.getD i ByteArray.empty) = true) (hs : PS.sumB z ≤ 1048576) :
    ∀ i, i < bs.length → SaysG none w 38 (bs.getD i 0) ((PS.texts z r).getD i ByteArray.empty) := by
  intro i hi
  rw [h.1] at hi
  rw [PS.texts_at z r i hi]
  have hsz := PS.sumB_get z i hi
  have hrs := PS.repT_size (repAt r i)
  exact term_nameG (by simp) (h.2 i hi) (by rw [toList_empty, decide_eq_false_iff_not]; have := (PS.plain_parts (hp i hi)).1; omega) (by omega) (by omega)
theorem still_of {P : Program} {f : Nat} {args : Array Value} {w : World} {v : Value} (h : Calls P f args w fun e w' => e = .returned v ∧ w = w') : Calls P f args w fun e w' => e = .returned v ∧ w' = w := h.mono fun _ _ ⟨a, b⟩ => ⟨a, b.symm⟩
theorem heldD {w3 W : World} {p : Addr} {v : Value} (h : w3.cell? p = some v) (hb : Below w3.heap.size w3 W) : W.cell? p = some v ∧ Below w3.heap.size w3 W := ⟨(hb.cell (World.block_lt_of_cell? _ _ h)).trans h, hb⟩
theorem news2 {w : World} {o1 : Obj} {v : Value} {t : TypeId} : ∀ (j : Nat) (u : Value), [v][j]? = some u → ((w.alloc o1).alloc (.cells #[v] t)).drew.cell? ((⟨w.heap.size + 1, 0, none⟩ : Addr).add j) = some u := by
  intro j u hj
  have := one_news (w := w.alloc o1) (o := v) (t := t) j u hj
  simpa using this
theorem own_ge {w : World} {base n k c g size : Nat} {t : TypeId} {xs : List Value} (h : w.ownsRow base t size (.slice (some ⟨g, 0, none⟩) n c) k xs) : base ≤ g := by
  obtain ⟨_, h⟩ := h
  rcases h with ⟨h, _⟩ | ⟨g', cap, cur, hv, hb, _⟩
  · cases h
  · injection hv with h1 _ _
    injection h1 with h1
    injection h1 with h1
    subst h1
    exact hb
theorem grow2 {w3 wr w9 : World} {base g : Nat} {o1 o2 : Obj} (hbel : Below base w3 wr) (hB : base ≤ w3.heap.size) (hg : base ≤ g) (h : ((wr.alloc o1).alloc o2).drew.grownBy w9 (some g)) : Below base w3 w9 := by
  have hsz := hbel.size
  exact (((hbel.alloc (by omega) o1).alloc (by simp; omega) o2).drew).grown h (by show base ≤ ((wr.alloc o1).alloc o2).heap.size; simp; omega) (fun k hk => by injection hk with hk; omega)
theorem Terms.grow2 {wr w9 : World} {z : List ByteArray} {r : List Int} {bs : List Nat} {j g c k : Nat} {base : Nat} {o2 : Obj} (h : Terms wr z r bs j) (hown : wr.ownsRow base 30 1 (.slice (some ⟨g, 0, none⟩) k c) k (ptrs bs))
    (hg : ((wr.alloc (.cells (termCells (z.getD j ByteArray.empty) (PS.repT (repAt r j))) 33)).alloc o2).drew.grownBy w9 (some g)) : Terms w9 z r (bs ++ [wr.heap.size]) (j + 1) := by
  have hrow := Row.of_own hown
  refine h.snoc (fun g' cs hb => (((hb.alloc _).alloc _).drew).grown hg ?_) ((((Blk.new wr _ _).alloc o2).drew).grown hg ?_)
  · intro e; injection e with e; exact hrow.ne_blk hb (by decide) e.symm
  · intro e; injection e with e; have := hrow.lt; omega
theorem tok_of (s : ByteArray) (r : Int) (h0 : 0 ≤ r) (h : plainB s = true) : ∃ T, T = s ++ PS.repT r ∧ 0 < T.size ∧ T.size ≤ s.size + 1 ∧ Hid (∀ hp : T.size - 1 < T.size, PS.repC ((T[T.size - 1]'hp).toNat : Int) = r % 5) ∧
    Hid (r % 5 ≠ 0 → T.extract 0 (T.size - 1) = s) ∧ Hid (r % 5 = 0 → T = s) := by
  have h1 := (PS.plain_parts h).1
  have h2 := PS.repT_size r
  have h3 : (s ++ PS.repT r).size = s.size + (PS.repT r).size := PS.size_app _ _
  exact ⟨_, rfl, by omega, by omega, fun hp => (PS.tok_last s r h0 h hp).1, (PS.tok_last s r h0 h (by omega)).2.1, (PS.tok_last s r h0 h (by omega)).2.2⟩
theorem ptrInfo : (Try.prog.info? 30).map (fun i => (i.zero, i.size, i.bytes)) = some (some (Value.pointer none), 1, 8) := by kernel_rfl
set_option maxHeartbeats 4000000 in
set_option maxRecDepth 100000 in
theorem walk (A0 : Option Addr) (n0 c0 : Nat) (z0 : List ByteArray) (A1 : Option Addr) (n1 c1 : Nat) (z1 : List Int) (w : World) (hv : Strs w A0 n0 z0) (hr : Ints .u8 w A1 n1 z1) :
    Calls Try.prog 8 #[.slice A0 n0 c0, .slice A1 n1 c1] w fun e w' => e = .returned (.bool true) ∧ Below w.heap.size w w' := by
  have hm0 := hv.2.1
  have hm1 := hr.2.1
  have HV := Lib.hid hv
  have HR := Lib.hid hr
  have HL := Lib.hid hv.1
  clear hv hr
  obtain ⟨i0, hi, hz0, hz1, hz2⟩ := info_parts ptrInfo
  go_enter Try.func8, Try.ntmps8
  go_wp2_with fail
  refine (zz A0 n0 c0 z0 A1 n1 c1 _ HV.out hm1).mono ?_
  rintro e w1 ⟨b, rfl, rfl, hb⟩
  unfold maxLen at hm0 hm1
  cases b
  · go_wp2_with fail
    go_ret
    exact ⟨rfl, Below.refl _ _⟩
  obtain ⟨hsum, -, -⟩ := hb rfl
  clear hb
  by_cases hs : n0 ≤ 4096 ∧ n1 ≤ 4096
  case neg =>
    go_wp2_with fail
    all_goals first | (exfalso; omega) | (go_ret; exact ⟨rfl, Below.refl _ _⟩)
  obtain ⟨hs0, hs1⟩ := hs
  go_wp2_with fail
  refine (strBytes A0 n0 c0 z0 _ HV.out hsum hs0).mono ?_
  rintro e w1 ⟨r, rfl, hr1, rfl⟩
  by_cases hr2 : r + n1 ≤ 1048576
  case neg =>
    go_wp2_with fail
    go_ret
    exact ⟨rfl, Below.refl _ _⟩
  go_wp2_with fail
  go_loopg [5] n0 (fun k i wr => ∃ j : Nat, k = n0 - j ∧ j ≤ n0 ∧ i = .int .i64 j ∧ wr = w ∧ Hid (∀ i, i < j → plainB (z0.getD i ByteArray.empty) = true))
  case atStart => exact ⟨0, rfl, Nat.zero_le _, rfl, rfl, Lib.hid (fun i hi => absurd hi (Nat.not_lt_zero _))⟩
  case round =>
    obtain ⟨j, hk, hj, rfl, rfl, HP⟩ := hrel
    have KK := Lib.hid hk; clear hk
    by_cases hlt : j < n0
    · rcases HV.out.split with h | ⟨b, off, rfl, hc⟩
      · exfalso; omega
      have hcj := hc.out j hlt
      have hsj := Nat.le_trans (PS.sumB_get z0 j (by rw [HL.out]; exact hlt)) hsum
      have HPN : Hid (plainB (z0.getD j ByteArray.empty) = true → ∀ i, i < j + 1 → plainB (z0.getD i ByteArray.empty) = true) := fun h i hi => by
        rcases Nat.lt_or_ge i j with g | g
        · exact HP.out i g
        · obtain rfl : i = j := by omega
          exact h
      generalize z0.getD j ByteArray.empty = sj at hcj hsj HPN
      clear hc
      have hi0 : (0 : Int) ≤ (j : Int) := by omega
      have hi1 : (j : Int) < (n0 : Int) := by omega
      go_wp2_with fail
      refine (plain_any sj _ (by omega)).mono ?_
      rintro e w1 ⟨rfl, rfl⟩
      cases hp : plainB sj
      · go_wp2_with fail
        go_ret
        exact ⟨rfl, Below.refl _ _⟩
      · have HPM := Lib.hid (HPN.out hp)
        clear hp
        go_wp2_with fail
        go_roundg (n0 - (j + 1))
        case measure => rw [KK.out]; omega
        case rel => exact ⟨j + 1, rfl, by omega, by go_num, rfl, HPM⟩
    · obtain rfl : n0 = j := by omega
      clear hlt
      go_wp2_with fail
      refine (cloneStrs_any A0 n0 c0 z0 _ HV.out (by omega)).mono ?_
      rintro e w2 ⟨A2, c2, rfl, hv2, hb2⟩
      go_wp2_with fail
      refine (cloneBytes_any A1 n1 c1 z1 _ (HR.out.later hb2) (by omega)).mono ?_
      rintro e w3 ⟨A3, c3, rfl, hr3, hb3⟩
      have hv3 := hv2.later hb3
      have hbw3 := below_next hb3 hb2
      clear hv2 hb2 hb3
      have HV3 := Lib.hid hv3; clear hv3
      have HR3 := Lib.hid hr3; clear hr3
      go_wp2_with (at_make; refine wpList_make_own _ rfl _ _ 35 rfl w3.heap.size 30 i0 _ 1 Try.underlying35 hi hz0 hz1 _ _ _ n0 rfl rfl rfl (by rw [hz2]; omega) (by unfold maxLen; omega) (Nat.le_refl _) ?_; intro w4 hown4 hg4)
      have hb4 : Below w3.heap.size w3 w4 := (Below.refl _ _).grown hg4 (Nat.le_refl _) (fun _ h => by cases h)
      clear hg4
      go_loopg [6, 7] n0 (fun k v i wr => ∃ (j g cap : Nat) (bs : List Nat), k = n0 - j ∧ j ≤ n0 ∧ i = .int .i64 j ∧ v = .slice (some ⟨g, 0, none⟩) j cap ∧ wr.ownsRow w3.heap.size 30 1 (.slice (some ⟨g, 0, none⟩) j cap) j (ptrs bs) ∧ Hid (Terms wr z0 z1 bs j) ∧ Below w3.heap.size w3 wr)
      case atStart => exact ⟨0, _, _, [], rfl, Nat.zero_le _, rfl, rfl, hown4, Lib.hid ⟨rfl, fun i hi => absurd hi (Nat.not_lt_zero _)⟩, hb4⟩
      case round =>
        obtain ⟨j, g, cap, bs, hk, hj, rfl, rfl, hown, HT, hbel⟩ := hrel
        have KK := Lib.hid hk; clear hk
        by_cases hlt : j < n0
        · rcases HV3.out.split with h | ⟨b, off, rfl, hc⟩
          · exfalso; omega
          have hcj := hc.out j hlt
          obtain ⟨sj, hsd⟩ : ∃ x, x = z0.getD j ByteArray.empty := ⟨_, rfl⟩
          rw [← hsd] at hcj
          have HSD := Lib.hid hsd; clear hsd hc
          have HC := Lib.hid hcj; clear hcj
          have hi0 : (0 : Int) ≤ (j : Int) := by omega
          have hi1 : (j : Int) < (n0 : Int) := by omega
          obtain ⟨hq0, hq1⟩ := repAt_wf HR3.out j
          have hsz := hbel.size
          go_wp2_with fail
          go_region_held3 (fun W => W.cell? ⟨b, off + j, none⟩ = some (.string sj) ∧ Below w3.heap.size w3 W)
            (first
              | assumption
              | exact heldD HC.out hbel.drew
              | (go_split_ands; refine heldD HC.out ?_; first | assumption | exact (hbel.alloc hsz _).drew | exact ((hbel.alloc hsz _).alloc (by simp; omega) _).drew | exact hb9))
            (first
              | (go_at_call 44; refine (repAt_any A3 n1 c3 z1 j _ (by go_split_ands; exact HR3.out.later (by assumption)) (by omega) (by omega)).mono ?_; rintro e W ⟨rfl, rfl⟩)
              | (go_at_call 37; refine (rep_any (repAt z1 j) _ hq0 hq1).mono ?_; rintro e W ⟨rfl, rfl⟩)
              | (refine step_append_lies _ (by rfl) _ _ _ (by rfl) w3.heap.size 30 i0 _ 1 8 Try.underlying35 hi hz0 hz1 hz2 rfl (by omega) (.slice (some ⟨g, 0, none⟩) j cap) j (ptrs bs) (by rfl) (((hown.alloc _).alloc _).drew)
                  ⟨wr.heap.size + 1, 0, none⟩ 1 1 [.pointer (some ⟨wr.heap.size, 0, none⟩)] (by rfl) (by rfl) ?_ (by simp [Value.oneCell']) (by omega) (by unfold maxLen; omega) (by omega) (by simp; omega) (wr.heap.size + 1 + 1) (by simp) ?_
                 · exact news2
                 intro g2 cap2 w9 hown9 hg9 hat hlt9
                 have hb9 : Below w3.heap.size w3 w9 := grow2 hbel (Nat.le_refl _) (own_ge hown) hg9))
          have HT9 : Hid (Terms w9 z0 z1 (bs ++ [wr.heap.size]) (j + 1)) := HT.out.grow2 hown (by rw [← HSD.out]; exact hg9)
          have hownN : w9.ownsRow w3.heap.size 30 1 (.slice (some ⟨g2, 0, none⟩) (j + 1) cap2) (j + 1) (ptrs (bs ++ [wr.heap.size])) := by
            unfold ptrs at hown9 ⊢
            rw [List.map_append]; exact hown9
          clear hown9 hg9 hat hlt9 hown
          go_wp2_with fail
          go_roundg (n0 - (j + 1))
          case measure => rw [KK.out]; omega
          case rel => exact ⟨j + 1, g2, cap2, bs ++ [wr.heap.size], rfl, by omega, by go_num, rfl, hownN, HT9, by assumption⟩
        · obtain rfl : n0 = j := by omega
          clear hlt
          have hrow := Row.of_own hown
          have hbl := HT.out.1
          have HBL := Lib.hid hbl
          rw [← hbl] at hown
          have hsz := hbel.size
          have hpt : PtrsG none wr 30 (some ⟨g, 0, none⟩) bs := .inr ⟨g, rfl, by simp, hrow⟩
          have HSQ : Hid (∀ W, W = wr.alloc (.cells #[.slice (some ⟨g, 0, none⟩) n0 cap] 37) → SaysG none W 26 wr.heap.size (PS.join ⟨#[32]⟩ (PS.texts z0 z1))) := by
            intro W hW
            have hbW : Below wr.heap.size wr W := by rw [hW]; exact (Below.refl _ _).alloc (Nat.le_refl _) _
            refine seq_saysG (by simp) (A := some ⟨g, 0, none⟩) (c := cap) (bs := bs) (by rw [hW, hbl]; exact Blk.new wr _ _) (hpt.grown (grown_of_below hbW none)) (by rw [PS.texts_length, HL.out, hbl]) (by omega) ?_ ?_
            · intro i hi
              refine (Terms.says (by rw [HL.out]; exact HT.out) (by rw [HL.out]; exact HP.out) hsum i hi).later hbW
            · have := PS.texts_tot z0 z1
              rw [HL.out] at this
              omega
          clear hown hpt hrow hbl
          go_wp2_with fail
          refine (HSQ.out _ rfl _ (grown_refl _ _)).mono ?_
          rintro e w5 ⟨rfl, hb5⟩
          have hb35 : Below w3.heap.size w3 w5 := below_next hb5 (hbel.alloc hsz _)
          have hjs : (PS.join ⟨#[32]⟩ (PS.texts z0 z1)).size ≤ 1073741824 := by
            have h1 := PS.join_size (sep := ⟨#[32]⟩) (by decide) (PS.texts z0 z1)
            have h2 := PS.texts_tot z0 z1
            rw [HL.out] at h2
            omega
          have hsp := split_any (PS.join ⟨#[32]⟩ (PS.texts z0 z1)) 32 32 rfl w5 hjs
          rw [PS.texts_split z0 z1 (by rw [HL.out]; exact HP.out), PS.texts_length, HL.out] at hsp
          have HSP := Lib.hid hsp; clear hsp hjs HSQ hb5 hsz HBL
          generalize PS.join ⟨#[32]⟩ (PS.texts z0 z1) = out at HSP ⊢
          go_wp2_with fail
          refine HSP.out.mono ?_
          rintro e w6 ⟨A6, c6, rfl, hv6, hb6⟩
          have hb36 := below_next hb6 hb35
          have HV6 := Lib.hid hv6
          clear hv6 hb6 hb35
          go_wp2_with fail
          go_loopg [10] n0 (fun k i wr => ∃ j : Nat, k = n0 - j ∧ j ≤ n0 ∧ i = .int .i64 j ∧ wr = w6)
          case atStart => exact ⟨0, rfl, Nat.zero_le _, rfl, rfl⟩
          case round =>
            obtain ⟨j, hk, hj, rfl, rfl⟩ := hrel
            have KK := Lib.hid hk; clear hk
            by_cases hlt : j < n0
            · rcases HV6.out.split with h | ⟨b6, o6, rfl, hc6⟩
              · exfalso; omega
              rcases (HV3.out.later hb36).split with h | ⟨b3, o3, rfl, hc3⟩
              · exfalso; omega
              have hcj := hc6.out j hlt
              have hdj := hc3.out j hlt
              rw [PS.texts_at z0 z1 j (by rw [HL.out]; exact hlt)] at hcj
              clear hc6 hc3
              obtain ⟨hq0, hq1⟩ := repAt_wf HR3.out j
              have hpl := HP.out j hlt
              have hsj := Nat.le_trans (PS.sumB_get z0 j (by rw [HL.out]; exact hlt)) hsum
              obtain ⟨hp0, -⟩ := PS.plain_parts hpl
              generalize z0.getD j ByteArray.empty = sj at hcj hdj hpl hsj hp0
              obtain ⟨T, hTd, hT0, hTs, HT1, HT2, HT3⟩ := tok_of sj (repAt z1 j) hq0 hpl
              rw [← hTd] at hcj
              clear hTd
              have htm : (repAt z1 j).tmod 5 = repAt z1 j % 5 := Int.tmod_eq_emod_of_nonneg hq0
              have hrep := repAt_any A3 n1 c3 z1 j wr (HR3.out.later hb36) (by omega) (by omega)
              have HREP := Lib.hid hrep; clear hrep hpl
              have hi0 : (0 : Int) ≤ (j : Int) := by omega
              have hi1 : (j : Int) < (n0 : Int) := by omega
              generalize repAt z1 j = rj at hq0 hq1 htm HREP HT1 HT2 HT3
              obtain ⟨m, hm⟩ : ∃ m, m = rj % 5 := ⟨_, rfl⟩
              rw [← hm] at htm HT1 HT2 HT3
              have hm0 : 0 ≤ m := by omega
              have hm5 : m < 5 := by omega
              clear hm
              have hT1 : (0 : Int) ≤ (T.size : Int) - 1 := by omega
              have hT2 : (T.size : Int) - 1 < (T.size : Int) := by omega
              have hT4 : (0 : Int) < (T.size : Int) := by omega
              have hT3 : ((T.size : Int) - 1).toNat = T.size - 1 := by omega
              by_cases hz : m = 0
              · subst hz
                have e := HT3.out rfl
                subst e
                go_wp2_with fail
                refine (repCode_any _ _).mono ?_
                rintro e w7 ⟨rfl, rfl⟩
                rw [HT1.out]
                go_wp2_with fail
                refine HREP.out.mono ?_
                rintro e w7 ⟨rfl, rfl⟩
                go_wp2_with fail
                go_roundg (n0 - (j + 1))
                case measure => rw [KK.out]; omega
                case rel => exact ⟨j + 1, rfl, by omega, by go_num, rfl⟩
              · have hz1 : (m != 0) = true := by simpa using hz
                have hz2 : (m == 0) = false := by simpa using hz
                have hE := HT2.out hz
                clear hz
                go_wp2_with fail
                refine (repCode_any _ _).mono ?_
                rintro e w7 ⟨rfl, rfl⟩
                rw [HT1.out]
                go_wp2_with fail
                refine HREP.out.mono ?_
                rintro e w7 ⟨rfl, rfl⟩
                go_wp2_with fail
                go_roundg (n0 - (j + 1))
                case measure => rw [KK.out]; omega
                case rel => exact ⟨j + 1, rfl, by omega, by go_num, rfl⟩
            · go_wp2_with fail
              go_ret
              exact ⟨rfl, hbw3.trans (hb36.mono hbw3.size)⟩
end fnSequenceStringDecodesToTerms
end Go.Proofs.Ytjneojglklbbfaa
