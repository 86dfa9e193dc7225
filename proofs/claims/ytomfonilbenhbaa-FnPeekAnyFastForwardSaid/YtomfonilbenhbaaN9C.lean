/-
  The fresh lexer of n025_9 behind k calls of Next, and its models b6Visible, b6After, b6NextStop. Conditions: as 'Lx', 'Row', 'BSet' say.
-/
import Derived.Test.YtomfonilbenhbaaN9B
namespace Go.Proofs.Ytomfonilbenhbaa
open Go.RowKit
set_option linter.unusedSimpArgs false

/-- A lexer in new memory, its cursors at s. -/
def FreshPost (w : World) (L : List Tok) (S : Int → Bool) (s : PL.St) (e : Ending) (w' : World) : Prop :=
  ∃ pb tb mb c nm, e = .returned (.pointer (some ⟨pb, 0, none⟩)) ∧ w.heap.size ≤ pb ∧ w.heap.size ≤ tb ∧ w.heap.size ≤ mb ∧ Lx w' pb tb mb c nm L S s.raw s.next s.cur ∧ Below w.heap.size w w'

theorem new_any (w : World) (tb mb c nm : Nat) (L : List Tok) (S : Int → Bool) (hr : Row w tb 46 (toksCells L)) (hs : BSet Try.prog 42 4 w mb nm S) (hw : ∀ t ∈ L, (Lit.int .i64 t.ty).wf = true)
    (hl : L.length ≤ 1048576) (E : Nat) (hF : PL.First (types L) E) (hE : E < L.length) :
    Calls Try.prog 64 #[.slice (some ⟨tb, 0, none⟩) L.length c, .map (some mb)] w fun e w' =>
      e = .returned (.pointer (some ⟨w.heap.size, 0, none⟩)) ∧ Lx w' w.heap.size tb mb c nm L S (PL.fresh S (types L)).raw (PL.fresh S (types L)).next (PL.fresh S (types L)).cur ∧ Below w.heap.size w w' := by
  have hx : Lx (w.alloc (.cells #[.int .i64 0, .int .i64 0, .int .i64 0, .slice (some ⟨tb, 0, none⟩) L.length c, .map (some mb)] 52)) w.heap.size tb mb c nm L S 0 0 0 :=
    ⟨Blk.new _ _ _, hr.alloc _, hs.alloc _, hw, by omega⟩
  have hsl : PL.stop S (types L) 0 < L.length := Nat.lt_of_le_of_lt (hF.stop_le (Nat.zero_le _)) hE
  have HX := Lib.hid hx; clear hx
  have HF := Lib.hid hF; clear hF
  have HW := Lib.hid hw; clear hw
  go_enter Try.func64, Try.ntmps64
  go_wp2_with fail
  refine (adv_any _ w.heap.size tb mb c nm L S 0 0 0 HX.out hsl).mono ?_
  rintro e w2 ⟨rfl, hg, hx2⟩
  go_wp2_with fail
  go_ret
  exact ⟨rfl, hx2, ((Below.refl _ _).alloc (Nat.le_refl _) _).grown hg (by simp) (fun k hk => by injection hk with hk; omega)⟩

set_option maxRecDepth 100000 in
theorem fresh_any (A0 : Option Addr) (n0 c0 : Nat) (z0 : List Int) (A1 : Option Addr) (n1 c1 : Nat) (z1 : List ByteArray) (A2 : Option Addr) (n2 c2 : Nat) (z2 : List Int) (k : Int) (w : World)
    (ht : Ints .i64 w A0 n0 z0) (hv : Strs w A1 n1 z1) (he : Ints .i64 w A2 n2 z2) (h0 : n0 ≤ 65536) (h1 : n1 ≤ 65536) (h2 : n2 ≤ 65536) (hk0 : 0 ≤ k) (hk1 : k ≤ 65536) :
    Calls Try.prog 47 #[.slice A0 n0 c0, .slice A1 n1 c1, .slice A2 n2 c2, .int .i64 k] w
      (FreshPost w (b6Toks z0 z1) (inS z2) ((PL.fresh (inS z2) (types (b6Toks z0 z1))).run (inS z2) (types (b6Toks z0 z1)) k.toNat)) := by
  have hF : PL.First (types (b6Toks z0 z1)) ((b6Toks z0 z1).length - 1) := b6Go_first z1 z0 0
  have hw := b6Go_wf z1 z0 0 ht.2.2.1
  have hlen : 0 < (b6Toks z0 z1).length ∧ (b6Toks z0 z1).length ≤ z0.length + 1 := b6Go_length z1 z0 0
  rw [ht.1] at hlen
  obtain ⟨hle0, hle1⟩ := hlen
  have HF := Lib.hid hF; clear hF
  have HW : Hid (∀ t ∈ b6Toks z0 z1, (Lit.int .i64 t.ty).wf = true) := hw; clear hw
  have HT := Lib.hid ht; clear ht
  have HV := Lib.hid hv; clear hv
  have HE := Lib.hid he; clear he
  generalize hLd : b6Toks z0 z1 = L at *
  generalize hSd : inS z2 = S at *
  have HLd := Lib.hid hLd; clear hLd
  have HSd := Lib.hid hSd; clear hSd
  go_enter Try.func47, Try.ntmps47
  go_wp2_with fail
  refine (toks_any A0 n0 c0 z0 A1 n1 c1 z1 _ HT.out HV.out h0 h1).mono ?_
  rw [HLd.out]
  rintro e w1 ⟨tb, cap, rfl, htb, hrow, hb1⟩
  go_wp2_with fail
  refine (elide_any A2 n2 c2 z2 _ (HE.out.later hb1) h2).mono ?_
  rw [HSd.out]
  rintro e w2 ⟨mb, nm, rfl, hmb, hset, hb2⟩
  go_wp2_with fail
  refine (new_any _ tb mb cap nm L S (hrow.later hb2) hset HW.out (by omega) (L.length - 1) HF.out (by omega)).mono ?_
  rintro e w3 ⟨rfl, hx, hb3⟩
  have hb : Below w.heap.size w w3 := below_next hb3 (below_next hb2 hb1)
  have hp2 : w.heap.size ≤ w2.heap.size := (below_next hb2 hb1).size
  have hm1 : w.heap.size ≤ mb := Nat.le_trans hb1.size hmb
  clear hb1 hb2 hb3 hrow hset
  obtain ⟨pb, hpb⟩ : ∃ pb, pb = w2.heap.size := ⟨_, rfl⟩
  rw [← hpb] at hx hp2 ⊢
  clear hpb
  go_wp2_with fail
  go_loopg [10] k.toNat (fun q i wr => ∃ j : Nat, q = k.toNat - j ∧ j ≤ k.toNat ∧ i = .int .i64 j ∧ Lx wr pb tb mb cap nm L S ((PL.fresh S (types L)).run S (types L) j).raw ((PL.fresh S (types L)).run S (types L) j).next ((PL.fresh S (types L)).run S (types L) j).cur ∧ Below w.heap.size w wr)
  case atStart => exact ⟨0, rfl, Nat.zero_le _, rfl, hx, hb⟩
  case round =>
    obtain ⟨j, hq, hj, rfl, hxj, hbj⟩ := hrel
    have KK := Lib.hid hq; clear hq
    by_cases hlt : j < k.toNat
    · have hjk : (j : Int) < k := by omega
      have hI := PL.inv_run (S := S) HF.out j
      have HI := Lib.hid hI; clear hI
      go_wp2_with fail
      refine (next_any _ pb tb mb cap nm L S _ hxj (L.length - 1) HF.out (by omega) HI.out.le (by have := HI.out.most; omega)).mono ?_
      rintro e w5 ⟨rfl, hg5, hx5⟩
      go_wp2_with fail
      go_roundg (k.toNat - (j + 1))
      case measure => rw [KK.out]; omega
      case rel => exact ⟨j + 1, rfl, by omega, by go_num, hx5, hbj.grown hg5 hbj.size (fun q hq => by injection hq with hq; omega)⟩
    · have hjk : ¬ (j : Int) < k := by omega
      have hje : j = k.toNat := by omega
      have HJ := Lib.hid hje; clear hje
      go_wp2_with fail
      go_ret
      rw [HJ.out] at hxj
      exact ⟨pb, tb, mb, cap, nm, rfl, hp2, htb, hm1, hxj, hbj⟩
/-! ### b6Visible -/
theorem visible_any (w : World) (mb nm : Nat) (S : Int → Bool) (t : Tok) (hs : BSet Try.prog 42 4 w mb nm S) (hw : (Lit.int .i64 t.ty).wf = true) :
    Calls Try.prog 53 #[.agg #[.int .i64 t.ty, .string t.val, .string t.fn, .int .i64 t.off, .int .i64 t.line, .int .i64 t.col], .map (some mb)] w fun e w' =>
      e = .returned (.bool (t.ty != -1 && !S t.ty)) ∧ Below w.heap.size w w' := by
  have hlk := fun o => (hs.alloc o).run Try.underlying42 Try.underlying4 Try.underlying50 (zeroBool _) hw
  clear hs hw
  by_cases hE : t.ty = -1
  · have e : (t.ty != -1 && !S t.ty) = false := by simp [hE]
    rw [e]
    have hE' : (t.ty != -1) = false := by simp [hE]
    clear hE e
    go_enter Try.func53, Try.ntmps53
    go_wp2_with fail
    go_ret
    exact ⟨rfl, (Below.refl _ _).alloc (Nat.le_refl _) _⟩
  · have hE' : (t.ty != -1) = true := by simp [hE]
    have e : (t.ty != -1 && !S t.ty) = !S t.ty := by rw [hE']; rfl
    rw [e]
    clear hE e
    go_enter Try.func53, Try.ntmps53
    go_wp2_with fail
    go_ret
    exact ⟨rfl, (Below.refl _ _).alloc (Nat.le_refl _) _⟩

/-! ### b6After -/
structure AfterOK (S : Int → Bool) (T : List Int) (E k r c : Nat) : Prop where
  le : r ≤ E
  cnt : PL.cnt S T r = c
  last : r = 0 ∨ PL.vis S T (r - 1) = true
  most : c ≤ k
  all : c < k → ∀ i, r ≤ i → i < E → PL.vis S T i = false

def AfterPost (w : World) (S : Int → Bool) (T : List Int) (E k : Nat) (e : Ending) (w' : World) : Prop :=
  ∃ r c, e = .returned (.tuple #[.int .i64 (r : Nat), .int .i64 (c : Nat)]) ∧ AfterOK S T E k r c ∧ Below w.heap.size w w'

theorem after_close {S : Int → Bool} {T : List Int} {E k r c i : Nat} (hF : PL.First T E) (hi : i ≤ E + 1) (hri : r ≤ i) (h1 : PL.cnt S T r = c) (h2 : PL.cnt S T i = c) (hl : r = 0 ∨ PL.vis S T (r - 1) = true) (hc : c ≤ k) (hx : c < k → i = E + 1) :
    AfterOK S T E k r c := by
  refine ⟨?_, h1, hl, hc, fun hk j hj1 hj2 => ?_⟩
  · rcases hl with hl | hl
    · omega
    · have hne := PL.ne_of_vis hl
      rcases Nat.lt_or_ge E (r - 1) with g | g
      · omega
      · rcases Nat.lt_or_ge (r - 1) E with g' | g'
        · omega
        · have : r - 1 = E := by omega
          rw [this] at hne; exact absurd hF.eof hne
  · cases hv : PL.vis S T j with
    | false => rfl
    | true =>
      have := PL.cnt_lt_of_vis (i := r) (j := i) hj1 (by have := hx hk; omega) hv
      omega

set_option maxRecDepth 100000 in
theorem after_any (w : World) (tb mb c nm : Nat) (L : List Tok) (S : Int → Bool) (k : Int) (hr : Row w tb 46 (toksCells L)) (hs : BSet Try.prog 42 4 w mb nm S) (hw : ∀ t ∈ L, (Lit.int .i64 t.ty).wf = true)
    (hl : L.length ≤ 1048576) (hl0 : 0 < L.length) (hF : PL.First (types L) (L.length - 1)) (hk0 : 0 ≤ k) (hk1 : k ≤ 1048576) :
    Calls Try.prog 48 #[.slice (some ⟨tb, 0, none⟩) L.length c, .map (some mb), .int .i64 k] w (AfterPost w S (types L) (L.length - 1) k.toNat) := by
  have HF := Lib.hid hF; clear hF
  have HW := Lib.hid hw; clear hw
  go_enter Try.func48, Try.ntmps48
  go_wp2_with fail
  go_loopg [8, 9, 10] L.length (fun q a b i wr => ∃ j r d : Nat, q = L.length - j ∧ j ≤ L.length ∧ a = .int .i64 r ∧ b = .int .i64 d ∧ i = .int .i64 j ∧ r ≤ j ∧ PL.cnt S (types L) r = d ∧ PL.cnt S (types L) j = d ∧ (r = 0 ∨ PL.vis S (types L) (r - 1) = true) ∧ d ≤ k.toNat ∧ Below w.heap.size w wr)
  case atStart => exact ⟨0, 0, 0, rfl, Nat.zero_le _, rfl, rfl, rfl, Nat.le_refl _, rfl, rfl, .inl rfl, Nat.zero_le _, Below.refl _ _⟩
  case round =>
    obtain ⟨j, r, d, hq, hj, rfl, rfl, rfl, hrj, hcr, hcj, hlast, hd, hbel⟩ := hrel
    have KK := Lib.hid hq; clear hq
    have HC := Lib.hid (And.intro hcr hcj); clear hcr hcj
    have HLA := Lib.hid hlast; clear hlast
    by_cases hjl : j < L.length
    · by_cases hdk : d < k.toNat
      · have hdk' : (d : Int) < k := by omega
        obtain ⟨t, ht⟩ : ∃ t, t = L.getD j eofTok := ⟨_, rfl⟩
        have htm : t ∈ L := by rw [ht, List.getD_eq_getElem?_getD, List.getElem?_eq_getElem hjl]; simp
        have hvj := vis_at S L j
        rw [← ht] at hvj
        have hrow := hr.later hbel
        have t0 := hrow.cell ((toksCells_at L j 0 (by omega) hjl).trans rfl)
        have t1 := hrow.cell ((toksCells_at L j 1 (by omega) hjl).trans rfl)
        have t2 := hrow.cell ((toksCells_at L j 2 (by omega) hjl).trans rfl)
        have t3 := hrow.cell ((toksCells_at L j 3 (by omega) hjl).trans rfl)
        have t4 := hrow.cell ((toksCells_at L j 4 (by omega) hjl).trans rfl)
        have t5 := hrow.cell ((toksCells_at L j 5 (by omega) hjl).trans rfl)
        rw [← ht] at t0 t1 t2 t3 t4 t5
        simp only [Nat.add_zero] at t0
        have HT := Lib.hid ht; clear ht
        have HM := Lib.hid htm; clear htm
        have HV := Lib.hid hvj; clear hvj
        have hi0 : (0 : Int) ≤ (j : Int) := by omega
        have hi1 : (j : Int) < (L.length : Int) := by omega
        clear hrow
        go_wp2_with fail
        refine (visible_any _ mb nm S t (hs.later hbel) (HW.out t HM.out)).mono ?_
        rintro e w2 ⟨rfl, hb2⟩
        have hb2' := below_next hb2 hbel
        clear t0 t1 t2 t3 t4 t5
        rw [← HV.out]
        cases hvv : PL.vis S (types L) j
        · have HVV := Lib.hid hvv; clear hvv
          go_wp2_with fail
          go_roundg (L.length - (j + 1))
          case measure => rw [KK.out]; omega
          case rel => exact ⟨j + 1, r, d, rfl, hjl, rfl, rfl, by go_num, by omega, HC.out.1, by rw [cnt_succ, HVV.out, HC.out.2]; rfl, HLA.out, hd, hb2'⟩
        · have HVV := Lib.hid hvv; clear hvv
          go_wp2_with fail
          go_roundg (L.length - (j + 1))
          case measure => rw [KK.out]; omega
          case rel => exact ⟨j + 1, j + 1, d + 1, rfl, hjl, by go_num, by go_num, by go_num, Nat.le_refl _, by rw [cnt_succ, HVV.out, HC.out.2]; rfl, by rw [cnt_succ, HVV.out, HC.out.2]; rfl, .inr (by simpa using HVV.out), by omega, hb2'⟩
      · have hdk' : decide ((d : Int) < k) = false := by simp; omega
        go_wp2_with fail
        go_ret2
        exact ⟨r, d, rfl, after_close HF.out (by omega) hrj HC.out.1 HC.out.2 HLA.out hd (fun h => by omega), hbel⟩
    · go_wp2_with fail
      go_ret2
      exact ⟨r, d, rfl, after_close HF.out (by omega) hrj HC.out.1 HC.out.2 HLA.out hd (fun h => by omega), hbel⟩
/-! ### b6NextStop -/
set_option maxRecDepth 100000 in
theorem nextStop_any (w : World) (rb eb cap en : Nat) (L : List Tok) (S : Int → Bool) (i : Nat) (hr : Row w rb 46 (toksCells L)) (hs : BSet Try.prog 42 4 w eb en S) (hw : ∀ t ∈ L, (Lit.int .i64 t.ty).wf = true)
    (hl : L.length ≤ 1048576) (hsl : PL.stop S (types L) i < L.length) :
    Calls Try.prog 54 #[.slice (some ⟨rb, 0, none⟩) L.length cap, .map (some eb), .int .i64 i] w fun e w' => e = .returned (.int .i64 (PL.stop S (types L) i : Nat)) ∧ w = w' := by
  have HW := Lib.hid hw; clear hw
  go_enter Try.func54, Try.ntmps54
  go_wp2_with fail
  go_loopg [7] (L.length - i) (fun q x wr => ∃ m : Nat, q = L.length - m ∧ x = .int .i64 m ∧ i ≤ m ∧ m ≤ PL.stop S (types L) i ∧ PL.stop S (types L) m = PL.stop S (types L) i ∧ w = wr)
  case atStart => exact ⟨i, rfl, rfl, Nat.le_refl _, PL.le_stop _, rfl, rfl⟩
  case round =>
    obtain ⟨m, hq, rfl, him, hms, hst, rfl⟩ := hrel
    have KK := Lib.hid hq; clear hq
    have KS := Lib.hid hst; clear hst
    have hml : m < L.length := Nat.lt_of_le_of_lt hms hsl
    obtain ⟨t, ht⟩ : ∃ t, t = L.getD m eofTok := ⟨_, rfl⟩
    have htm : t ∈ L := by rw [ht, List.getD_eq_getElem?_getD, List.getElem?_eq_getElem hml]; simp
    have t0 := hr.cell ((toksCells_at L m 0 (by omega) hml).trans rfl)
    rw [← ht] at t0
    simp only [Nat.add_zero] at t0
    have hist : PL.isStop S (types L) m = (t.ty == -1 || !S t.ty) := by unfold PL.isStop; rw [at_types, ← ht]
    have HI := Lib.hid hist; clear hist
    have hlk := hs.run Try.underlying42 Try.underlying4 Try.underlying50 (zeroBool _) (HW.out t htm)
    have HM := Lib.hid htm; clear htm
    clear ht
    have hi0 : (0 : Int) ≤ (m : Int) := by omega
    have hi1 : (m : Int) < (L.length : Int) := by omega
    cases hE : (t.ty == -1)
    · cases hS : S t.ty
      · go_wp2_with fail
        go_ret
        rw [← KS.out, PL.stop_of_stop (by rw [HI.out, hE, hS]; rfl)]
        exact ⟨rfl, rfl⟩
      · have hns : PL.isStop S (types L) m = false := by rw [HI.out, hE, hS]; rfl
        have HN := Lib.hid hns; clear hns
        go_wp2_with fail
        have hne : m ≠ PL.stop S (types L) i := fun e => by
          have := (PL.stop_spec (S := S) (T := types L) i).2
          rw [← e, HN.out] at this; cases this
        go_roundg (L.length - (m + 1))
        case measure => rw [KK.out]; omega
        case rel => exact ⟨m + 1, rfl, by go_num, by omega, by omega, by rw [← PL.stop_of_not HN.out]; exact KS.out, rfl⟩
    · go_wp2_with fail
      go_ret
      rw [← KS.out, PL.stop_of_stop (by rw [HI.out, hE]; rfl)]
      exact ⟨rfl, rfl⟩
end Go.Proofs.Ytomfonilbenhbaa
